import PyProof.Rows.All
import Wide.All
import OpenK.AllK
import Wide.FinOn
import Lean
import PySem.Challenge.RW_iw0034_02
set_option genSizeOf false
set_option bootstrap.genMatcherCode false
set_option compiler.extract_closed false
set_option maxHeartbeats 8000000
set_option tactic.hygienic false
set_option Elab.async false
set_option maxRecDepth 100000
set_option linter.all false
open PySem PySem.W PyProof.Rows PySem.Calls
namespace Lay
section
variable {prog : Program} {w : World}
inductive zcn (prog : Program) (w : World) (h : Heap) (k : Str × List Str) (a : Addr) : Prop
 | mk (o : Obj) (items : Array Value) (n : Nat) (t : Tok) (b : Addr) (_ : h.get? a = some o) (_ : o.cls = .type "tuple") (_ : o.data = .seq items n) (_ : items.toList = [Value.str k.1 t, .ref b]) (_ : IsTupleKey (PySem.strKind prog w) h k.2 b) : zcn prog w h k a
theorem zcn.typeIs {s : Shared} {k} {a : Addr} (x : zcn prog w s.heap k a) : s.TypeIs (.ref a) "tuple" := by
 cases x with | mk o items n t b ho hc => exact ⟨o, ho, hc⟩
theorem zcn.inj {h : Heap} {a : Addr} {x y : Str × List Str} (hx : zcn prog w h x a) (hy : zcn prog w h y a) : x = y := by
 cases hx with | mk o items n t b ho _ hd hi hk => ?_
 cases hy with | mk o' items' n' t' b' ho' _ hd' hi' hk' => ?_
 have e : Data.seq items n = Data.seq items' n' := hd.symm.trans ((congrArg Obj.data (Option.some.inj (ho.symm.trans ho'))).trans hd')
 have e := hi.symm.trans ((congrArg Array.toList (Data.seq.inj e).1).trans hi')
 have e1 := List.cons.inj e
 exact Prod.ext (Value.str.inj e1.1).1 (hk.inj (Value.ref.inj (List.cons.inj e1.2).1 ▸ hk'))
theorem zcn.keeps {h h' : Heap} {ks : Str × List Str} {a d : Addr} {o : Obj} {es ep} (x : zcn prog w h ks a) (ho : h.get? d = some o) (hd : o.data = .dict es ep) (hs : Heap.SameBut d h h') :
  zcn prog w h' ks a := by
 cases x with | mk o' items n t b ho' hc hd' hi hk => ?_
 have hne : a ≠ d := by
  rintro rfl
  have e := hd'.symm.trans ((congrArg Obj.data (Option.some.inj (ho'.symm.trans ho))).trans hd)
  cases e
 exact ⟨o', items, n, t, b, (hs.2 a hne).trans ho', hc, hd', hi, hk.keeps ho hd hs⟩
noncomputable def zjc (prog : Program) (w : World) (k : Str × List Str) : Int := reduceHash (Builtin.Tuple.tupleHashOf [(PySem.strKind prog w).hash k.1, tupleKeyHash (PySem.strKind prog w) k.2])
variable {A : Around} {E : Value -> Shared -> Prop} {s : Shared}
noncomputable def stp {β : Type} (r : ForInStep β) (d y : β -> Prop) : Prop := match r with | .done b => d b | .yield b => y b
theorem zkn {M : Model} {α β : Type} {x y : α} {b : β} {f : α -> β -> Sem (ForInStep β)} {Q : β -> Shared -> Prop} (h : wpAny M A (f x b) (fun r s => stp r (fun b => Q b s) fun b => wpAny M A (f y b) (fun r s => stp r (fun b => Q b s) fun b => Q b s) E s) E s) : wpAny M A (forIn [x, y] b f) Q E s := by
 rw [List.forIn_cons]
 refine wpAny_bind (wpAny_mono h (fun r s h => ?_) fun J J x => x)
 cases r with
 | done b => exact wpAny_pure h
 | yield b =>
  show wpAny M A (forIn [y] b f) Q E s
  rw [List.forIn_cons]
  refine wpAny_bind (wpAny_mono h (fun r s h => ?_) fun J J x => x)
  cases r <;> exact wpAny_pure h
theorem zko {k : Str × List Str} {a : Addr} {Q : Int -> Shared -> Prop} (hu : A.units + 1 < cLine) (hk : zcn prog w s.heap k a) (h : Q (zjc prog w k) { s with toks := s.toks + (k.2.length + 3) }) :
  wpAny (model prog w) A (pyHash (.ref a)) Q E s := by
 have hT := hk.typeIs
 cases hk with | mk o items n t b ho _ hd hi hb => ?_
 unfold pyHash
 first | unfold pyHashByItsType | skip
 first | refine wpAny_bind (wpAny_cRoomFor_or (.inr (by lia)) ?_) | skip
 refine wpAny_bind (wpAny_specialOf hT F.slot_tuple_hash.lookup ?_)
 show wpAny _ _ (if (some (Value.builtin "tuple.__hash__") == some Value.none) = true then _ else _) Q E s
 rw [if_neg (by rw [beq_builtin_none]; exact Bool.false_ne_true)]
 refine wpAny_bind (wpAny_specialOf hT F.slot_tuple_hash.lookup ?_)
 show wpAny _ _ (callSpecialIfBoundUnlessNone? (.ref a) "__hash__" _ >>= _) Q E s
 refine wpAny_bind (wpAny_callSpecialIfBoundUnlessNone?_slot hT F.slot_tuple_hash (wpAny_call_entry F.slot_tuple_hash hT F.entry_tuple_hash ?_ (F.args_tuple_hash_1 _)))
 show wpAny _ _ (Builtin.Tuple.tupleItemsOf (.ref a) >>= _) _ _ s
 refine wpAny_bind (wpAny_tupleItemsOf ho hd ?_)
 refine wpAny_bind ?_
 rw [← Array.forIn_toList, hi]
 have e1 : Value.isStrOf k.1 (.str k.1 t) = true := by simp [Value.isStrOf]
 refine zkn (wpAny_bind ((PySem.strKind prog w).pyHash e1 ?_))
 refine wpAny_pure ?_
 refine wpAny_bind (wpAny_pyHash_tuple (knd := PySem.strKind prog w) (by simpa using hu) hb ?_)
 refine wpAny_pure ?_
 show wpAny _ _ (retInt (Builtin.Tuple.tupleHashOf [(PySem.strKind prog w).hash k.1, tupleKeyHash (PySem.strKind prog w) k.2])) _ _ _
 refine wpAny_ret_mkInt ?_
 unfold zjc reduceHash at h
 generalize Builtin.Tuple.tupleHashOf [(PySem.strKind prog w).hash k.1, tupleKeyHash (PySem.strKind prog w) k.2] = z at h ⊢
 show wpAny _ _ (if (decide (-(2 : Int) ^ 63 ≤ z) && decide (z < 2 ^ 63)) = true then _ else _) Q E _
 rw [show s.toks + (k.2.length + 3) = s.toks + 1 + (k.2.length + 1) + 1 by lia] at h
 by_cases hr : (decide (-(2 : Int) ^ 63 ≤ z) && decide (z < 2 ^ 63)) = true
 ·rw [if_pos hr] at h ⊢
  exact wpAny_pure h
 ·rw [if_neg hr] at h ⊢
  exact wpAny_bind (wpAny_rule (wpAny_pure h))
theorem zib {x y : Str × List Str} {a b : Addr} {P : Fin -> Shared -> Prop} (hu : A.units < cLine) (hx : zcn prog w s.heap x a) (hy : zcn prog w s.heap y b) (h : P (.done (.ret (.bool (decide (x = y))))) s) :
  wpAny (model prog w) A (Builtin.«tuple.__eq__» ⟨[.ref a, .ref b], []⟩) P E s := by
 have hTb := hy.typeIs
 cases hx with | mk oa xs na ta pa hoa _ hda hia hka => ?_
 cases hy with | mk ob ys nb tb pb hob _ hdb hib hkb => ?_
 show wpAny _ _ (isInstance (.ref b) (.type "tuple") >>= _) _ _ s
 refine wpAny_bind (wpAny_isInstance hTb isSubtype_tuple_tuple ?_)
 simp only [Bool.not_true, Bool.false_eq_true, if_false]
 refine wpAny_bind (wpAny_tupleItemsOf hoa hda ?_)
 refine wpAny_bind (wpAny_tupleItemsOf hob hdb ?_)
 refine wpAny_bind ?_
 have e1 : ∀ (k : Str) t, Value.isStrOf k (.str k t) = true := fun k t => by simp [Value.isStrOf]
 have hz : (xs.toList.zip ys.toList) = [(Value.str x.1 ta, Value.str y.1 tb), (.ref pa, .ref pb)] := by rw [hia, hib]; rfl
 have hl : (xs.size == ys.size) = true := by rw [← Array.length_toList, ← Array.length_toList, hia, hib]; rfl
 rw [hz]
 refine zkn (wpAny_bind ((PySem.strKind prog w).eqBool (a := x.1) (b := y.1) (u := .str x.1 ta) (v := .str y.1 tb) (e1 x.1 ta) (e1 y.1 tb) ?_))
 by_cases hk : x.1 = y.1
 ·rw [decide_eq_true hk]
  refine wpAny_pure ?_
  refine wpAny_bind (wpAny_eqBool_tuple (knd := PySem.strKind prog w) hu hka hkb ?_)
  by_cases hk2 : x.2 = y.2
  ·rw [decide_eq_true hk2]
   refine wpAny_pure ?_
   refine wpAny_pure ?_
   show P (.done (.ret (.bool (xs.size == ys.size)))) s
   rw [hl, ← decide_eq_true (Prod.ext hk hk2)]; exact h
  ·rw [decide_eq_false hk2]
   rw [decide_eq_false (p := x = y) fun e => hk2 (e ▸ rfl)] at h
   exact wpAny_bind (wpAny_pure (wpAny_pure (wpAny_pure h)))
 ·rw [decide_eq_false hk]
  rw [decide_eq_false (p := x = y) fun e => hk (e ▸ rfl)] at h
  exact wpAny_bind (wpAny_pure (wpAny_pure (wpAny_pure h)))
theorem zkp {x y : Str × List Str} {a b : Addr} {Q : Bool -> Shared -> Prop} (hu : A.units + 1 < cLine) (hx : zcn prog w s.heap x a) (hy : zcn prog w s.heap y b) (h : Q (decide (x = y)) s) :
  wpAny (model prog w) A (eqBool (.ref a) (.ref b)) Q E s := by
 unfold eqBool
 try with_reducible refine wpAny_holding ?_
 show wpAny _ _ (if (Value.ref a == Value.ref b) = true then _ else _) Q E s
 by_cases hab : (Value.ref a == Value.ref b) = true
 ·rw [if_pos hab]
  have e : a = b := by have := eq_of_beq hab; injection this
  subst e
  obtain rfl := hx.inj hy
  exact wpAny_bind (wpAny_rule (wpAny_pure (by simpa using h)))
 ·rw [if_neg hab]
  exact wpAny_bind (wpAny_richCompare_same_room (op := .Eq) hx.typeIs hy.typeIs F.slot_tuple_eq
   (wpAny_call_entry F.slot_tuple_eq hx.typeIs F.entry_tuple_eq (zib (by simpa using hu) hx hy ⟨_, rfl, (fun e => nomatch e), wpAny_truthy_bool h⟩) (F.args_tuple_eq_2 _ _)) (by lia))
theorem zkq {ks : List Str} {a : Addr} {n : Nat} {Q : Bool -> Shared -> Prop} (hk : IsTupleKey (PySem.strKind prog w) s.heap ks a) (h : Q true s) : wpAny (model prog w) A (eqIsQuiet (n + 1) (.ref a)) Q E s := by
 have hT := hk.typeIs
 obtain ⟨o, items, m, ho, _, hd, hi⟩ := hk
 unfold eqIsQuiet
 refine wpAny_bind (wpAny_specialOf hT F.slot_tuple_eq.lookup ?_)
 show wpAny _ _ (isInstance (.ref a) (.type "tuple") >>= _) _ _ s
 refine wpAny_bind (wpAny_isInstance hT isSubtype_tuple_tuple ?_)
 simp only [Bool.not_true, Bool.false_eq_true, if_false]
 refine wpAny_bind (wpAny_seqItems ho hd ?_)
 refine wpAny_bind ?_
 show wpAny _ _ (forIn items _ _) _ _ s
 rw [← Array.forIn_toList]
 refine wpAny_forIn_list _ (fun rest r s' => r.1 = none ∧ s' = s ∧ ∀ v ∈ rest, carriedByValue v = true) _ ?_ ?_ _ _ ⟨rfl, rfl, hi.byValue⟩
 ·rintro v rest r s' ⟨hr, rfl, hall⟩
  rw [eqIsQuiet_byValue _ (hall v List.mem_cons_self)]
  refine wpAny_bind (wpAny_pure ?_)
  simp only [Bool.not_true, Bool.false_eq_true, if_false]
  exact wpAny_pure ⟨rfl, rfl, fun u hu' => hall u (List.mem_cons_of_mem _ hu')⟩
 ·rintro ⟨r1, r2⟩ s' ⟨hr, rfl, _⟩
  simp only at hr
  subst hr
  exact wpAny_pure h
theorem zmq {k : Str × List Str} {a : Addr} {Q : Bool -> Shared -> Prop} (hk : zcn prog w s.heap k a) (h : Q true s) : wpAny (model prog w) A (eqIsQuiet 8 (.ref a)) Q E s := by
 have hT := hk.typeIs
 cases hk with | mk o items m t b ho _ hd hi hb => ?_
 unfold eqIsQuiet
 refine wpAny_bind (wpAny_specialOf hT F.slot_tuple_eq.lookup ?_)
 show wpAny _ _ (isInstance (.ref a) (.type "tuple") >>= _) _ _ s
 refine wpAny_bind (wpAny_isInstance hT isSubtype_tuple_tuple ?_)
 simp only [Bool.not_true, Bool.false_eq_true, if_false]
 refine wpAny_bind (wpAny_seqItems ho hd ?_)
 refine wpAny_bind ?_
 show wpAny _ _ (forIn items _ _) _ _ s
 rw [← Array.forIn_toList, hi]
 refine zkn ?_
 rw [eqIsQuiet_byValue _ (by rfl)]
 refine wpAny_bind (wpAny_pure ?_)
 refine wpAny_pure ?_
 refine wpAny_bind (zkq hb ?_)
 exact wpAny_pure (wpAny_pure h)
end
noncomputable def zdq (prog : Program) (w : World) : HeapKind prog w (Str × List Str) where
 is := zcn prog w
 hash := zjc prog w
 draws := fun k => k.2.length + 3
 room := fun A => A.units + 1 < cLine
 inj := fun hx hy => hx.inj hy
 keeps := fun x ho hd hs => x.keeps ho hd hs
 pyHash := fun hu hk h => zko hu hk h
 eqBool := fun hu hx hy h => zkp hu hx hy h
 quiet := fun hk h => zmq hk h
inductive V where
 | none | bool (b : Bool) | int (i : Int) | str (s : Str)
 | tup (xs : List V) | list (xs : List V) | inst (C : Addr) (fs : List (Str × V)) | ref (a : Addr) | raw (v : Value)
noncomputable abbrev Keep := Addr -> Option Obj
noncomputable abbrev zd9 (items : Array Value) (n : Nat) : Obj := { cls := .type "tuple", dict := none, data := .seq items n, slots := #[] }
noncomputable abbrev zcm (C dx : Addr) : Obj := { cls := .ref C, dict := some dx, data := .plain }
noncomputable abbrev zb2 (items : Array Value) (n : Nat) : Obj := { cls := .type "list", dict := none, data := .seq items n, slots := #[] }
mutual
inductive RelV (B : Keep) : Value -> V -> Prop
 | none : RelV B .none .none
 | bool (b) : RelV B (.bool b) (.bool b)
 | int (i t) : RelV B (.int i t) (.int i)
 | str (x t) : PyData.strOk x = true -> RelV B (.str x t) (.str x)
 | tup {a items n xs} : B a = some (zd9 items n) -> zad B items.toList xs -> RelV B (.ref a) (.tup xs)
 | list {a items n xs} : B a = some (zb2 items n) -> zad B items.toList xs -> RelV B (.ref a) (.list xs)
 | inst {a C d o es ep fs} : B a = some (zcm C d) -> B d = some o -> o.data = .dict es ep -> zea B o fs -> RelV B (.ref a) (.inst C fs)
 | ref (a) : RelV B (.ref a) (.ref a)
 | raw (v) : RelV B v (.raw v)
inductive zad (B : Keep) : List Value -> List V -> Prop
 | nil : zad B [] []
 | cons {v vs x xs} : RelV B v x -> zad B vs xs -> zad B (v :: vs) (x :: xs)
inductive zea (B : Keep) : Obj -> List (Str × V) -> Prop
 | nil {o} : zea B o []
 | cons {o k v x fs} : lookIn k o = some (some v) -> RelV B v x -> zea B o fs -> zea B o ((k, x) :: fs)
end
noncomputable def RelV.inv (B : Keep) (v : Value) : V -> Prop
 | .none => v = .none
 | .bool b => v = .bool b
 | .int i => ∃ t, v = .int i t
 | .str x => ∃ t, v = .str x t ∧ PyData.strOk x = true
 | .tup xs => ∃ a items n, v = .ref a ∧ B a = some (zd9 items n) ∧ zad B items.toList xs
 | .list xs => ∃ a items n, v = .ref a ∧ B a = some (zb2 items n) ∧ zad B items.toList xs
 | .inst C fs => ∃ a d o es ep, v = .ref a ∧ B a = some (zcm C d) ∧ B d = some o ∧ o.data = .dict es ep ∧ zea B o fs
 | .ref a => v = .ref a
 | .raw x => v = x
noncomputable def zad.inv (B : Keep) (vs : List Value) : List V -> Prop
 | [] => vs = []
 | X :: Xs => ∃ v r, vs = v :: r ∧ RelV B v X ∧ zad B r Xs
section
variable {B : Keep} {v : Value} {vs : List Value}
theorem RelV.I {X : V} (r : RelV B v X) : RelV.inv B v X := by
 cases r with
 | none | bool | ref | raw => exact rfl
 | int i t => exact ⟨t, rfl⟩
 | str x t h => exact ⟨t, rfl, h⟩
 | tup h r => exact ⟨_, _, _, rfl, h, r⟩
 | list h r => exact ⟨_, _, _, rfl, h, r⟩
 | inst h1 h2 h3 h4 => exact ⟨_, _, _, _, _, rfl, h1, h2, h3, h4⟩
theorem zad.I {X : List V} (r : zad B vs X) : zad.inv B vs X := by
 cases r with
 | nil => exact rfl
 | cons a r => exact ⟨_, _, rfl, a, r⟩
theorem RelV.rI {a : Addr} (r : RelV B v (.ref a)) : v = .ref a := r.I
theorem RelV.nI (r : RelV B v .none) : v = .none := r.I
theorem RelV.bI {b : Bool} (r : RelV B v (.bool b)) : v = .bool b := r.I
theorem RelV.wI {x : Value} (r : RelV B v (.raw x)) : v = x := r.I
theorem RelV.iI {i : Int} (r : RelV B v (.int i)) : ∃ t, v = .int i t := r.I
theorem RelV.sI {x : Str} (r : RelV B v (.str x)) : ∃ t, v = .str x t ∧ PyData.strOk x = true := r.I
theorem RelV.tI {xs : List V} (r : RelV B v (.tup xs)) : ∃ a items n, v = .ref a ∧ B a = some (zd9 items n) ∧ zad B items.toList xs := r.I
theorem RelV.lI {xs : List V} (r : RelV B v (.list xs)) : ∃ a items n, v = .ref a ∧ B a = some (zb2 items n) ∧ zad B items.toList xs := r.I
theorem RelV.oI {C : Addr} {fs : List (Str × V)} (r : RelV B v (.inst C fs)) : ∃ a d o es ep, v = .ref a ∧ B a = some (zcm C d) ∧ B d = some o ∧ o.data = .dict es ep ∧ zea B o fs := r.I
theorem zad.eI (r : zad B vs []) : vs = [] := r.I
theorem zad.cI {X : V} {Xs : List V} (r : zad B vs (X :: Xs)) : ∃ v r, vs = v :: r ∧ RelV B v X ∧ zad B r Xs := r.I
theorem zad.c1 {X : V} (r : zad B vs [X]) : ∃ v, vs = [v] ∧ RelV B v X := by
 obtain ⟨_, _, rfl, a, r⟩ := r.cI; exact ⟨_, by rw [r.eI], a⟩
theorem zad.c2 {X Y : V} (r : zad B vs [X, Y]) : ∃ v u, vs = [v, u] ∧ RelV B v X ∧ RelV B u Y := by
 obtain ⟨_, _, rfl, a, r⟩ := r.cI; obtain ⟨u, rfl, b⟩ := r.c1; exact ⟨_, u, rfl, a, b⟩
theorem zad.c3 {X Y Z : V} (r : zad B vs [X, Y, Z]) : ∃ v u w, vs = [v, u, w] ∧ RelV B v X ∧ RelV B u Y ∧ RelV B w Z := by
 obtain ⟨_, _, rfl, a, r⟩ := r.cI; obtain ⟨u, w, rfl, b⟩ := r.c2; exact ⟨_, u, w, rfl, a, b⟩
end
noncomputable def Le (B B' : Keep) : Prop := ∀ a o, B a = some o -> B' a = some o
theorem Le.refl (B : Keep) : Le B B := fun J J h => h
theorem Le.trans {B B' B'' : Keep} (h : Le B B') (h' : Le B' B'') : Le B B'' := fun a o e => h' a o (h a o e)
theorem Rel3.map {B B' : Keep} (h : ∀ a o, B a = some o -> (∀ fl, o.data ≠ .fields fl) -> B' a = some o) : (∀ v x, RelV B v x -> RelV B' v x) ∧ (∀ v x, zad B v x -> zad B' v x) ∧ ∀ o x, zea B o x -> zea B' o x := by
 have t : ∀ {a items n}, B a = some (zd9 items n) -> B' a = some (zd9 items n) := fun e => h _ _ e fun J z => nomatch z
 have l : ∀ {a items n}, B a = some (zb2 items n) -> B' a = some (zb2 items n) := fun e => h _ _ e fun J z => nomatch z
 have i : ∀ {a C d}, B a = some (zcm C d) -> B' a = some (zcm C d) := fun e => h _ _ e fun J z => nomatch z
 have d : ∀ {a o es ep}, B a = some o -> o.data = .dict es ep -> B' a = some o := fun e hd => h _ _ e fun J z => nomatch hd.symm.trans z
 refine ⟨fun v x r => ?_, fun v x r => ?_, fun o x r => ?_⟩
 ·exact RelV.rec (motive_1 := fun v x J => RelV B' v x) (motive_2 := fun v x J => zad B' v x) (motive_3 := fun v x J => zea B' v x) .none .bool .int .str (fun e J q => .tup (t e) q) (fun e J q => .list (l e) q) (fun e1 e2 e3 J q => .inst (i e1) (d e2 e3) e3 q) .ref .raw .nil (fun J J p q => .cons p q) .nil (fun e J J p q => .cons e p q) r
 ·exact zad.rec (motive_1 := fun v x J => RelV B' v x) (motive_2 := fun v x J => zad B' v x) (motive_3 := fun v x J => zea B' v x) .none .bool .int .str (fun e J q => .tup (t e) q) (fun e J q => .list (l e) q) (fun e1 e2 e3 J q => .inst (i e1) (d e2 e3) e3 q) .ref .raw .nil (fun J J p q => .cons p q) .nil (fun e J J p q => .cons e p q) r
 ·exact zea.rec (motive_1 := fun v x J => RelV B' v x) (motive_2 := fun v x J => zad B' v x) (motive_3 := fun v x J => zea B' v x) .none .bool .int .str (fun e J q => .tup (t e) q) (fun e J q => .list (l e) q) (fun e1 e2 e3 J q => .inst (i e1) (d e2 e3) e3 q) .ref .raw .nil (fun J J p q => .cons p q) .nil (fun e J J p q => .cons e p q) r
theorem RelV.mono {B B' : Keep} (h : Le B B') {v : Value} {x : V} (r : RelV B v x) : RelV B' v x := (Rel3.map fun a o e J => h a o e).1 v x r
theorem zad.mono {B B' : Keep} (h : Le B B') {v : List Value} {x : List V} (r : zad B v x) : zad B' v x := (Rel3.map fun a o e J => h a o e).2.1 v x r
theorem zea.get {B : Keep} : ∀ {o : Obj} {fs : List (Str × V)} {k : Str} {x : V}, zea B o fs -> (fs.find? fun kv => kv.1 = k).map (·.2) = some x -> ∃ v, lookIn k o = some (some v) ∧ RelV B v x
 | _, _, _, _, .nil, h => by cases h
 | o, (k', x') :: fs, k, x, .cons e a r, h => by
  rw [List.find?_cons] at h
  by_cases hk : k' = k
  ·subst hk; simp at h; subst h; exact ⟨_, e, a⟩
  ·simp only [hk, decide_false] at h; exact zea.get r h
theorem zad.ind {B : Keep} {M : List Value -> List V -> Prop} (h0 : M [] []) (h1 : ∀ {v x vs xs}, RelV B v x -> zad B vs xs -> M vs xs -> M (v :: vs) (x :: xs)) {vs : List Value} {xs : List V} (r : zad B vs xs) : M vs xs :=
 zad.rec (motive_1 := fun J J J => True) (motive_2 := fun vs xs J => M vs xs) (motive_3 := fun J J J => True) trivial (fun J => trivial) (fun J J => trivial) (fun J J J => trivial) (fun J J J => trivial) (fun J J J => trivial) (fun J J J J J => trivial) (fun J => trivial) (fun J => trivial) h0 (fun a r J q => h1 a r q) trivial (fun J J J J J => trivial) r
theorem zad.length {B : Keep} {vs : List Value} {xs : List V} (h : zad B vs xs) : vs.length = xs.length := h.ind (M := fun vs xs => vs.length = xs.length) rfl fun J J e => congrArg (· + 1) e
theorem zad.append {B : Keep} {vs ws : List Value} {xs ys : List V} (h : zad B vs xs) (k : zad B ws ys) : zad B (vs ++ ws) (xs ++ ys) := h.ind (M := fun vs xs => zad B (vs ++ ws) (xs ++ ys)) k fun a J r => .cons a r
theorem zad.get {B : Keep} {vs : List Value} {xs : List V} {i : Nat} {x : V} (h : zad B vs xs) (e : xs[i]? = some x) : ∃ v, vs[i]? = some v ∧ RelV B v x :=
 h.ind (M := fun vs xs => ∀ i, xs[i]? = some x -> ∃ v, vs[i]? = some v ∧ RelV B v x) (fun i e => by rw [List.getElem?_nil] at e; cases e) (fun a J r i e => by
  cases i with
  | zero => cases e; exact ⟨_, rfl, a⟩
  | succ i => exact r i e) i e
theorem zad.take {B : Keep} {vs : List Value} {xs : List V} (n : Nat) (h : zad B vs xs) : zad B (vs.take n) (xs.take n) :=
 h.ind (M := fun vs xs => ∀ n, zad B (vs.take n) (xs.take n)) (fun n => by rw [List.take_nil, List.take_nil]; exact .nil) (fun a J r n => by
  cases n with
  | zero => exact .nil
  | succ n => exact .cons a (r n)) n
theorem zad.drop {B : Keep} {vs : List Value} {xs : List V} (n : Nat) (h : zad B vs xs) : zad B (vs.drop n) (xs.drop n) :=
 h.ind (M := fun vs xs => ∀ n, zad B (vs.drop n) (xs.drop n)) (fun n => by rw [List.drop_nil, List.drop_nil]; exact .nil) (fun a q r n => by
  cases n with
  | zero => exact .cons a q
  | succ n => exact r n) n
theorem zad.set {B : Keep} {vs : List Value} {xs : List V} (n : Nat) {v : Value} {x : V} (h : zad B vs xs) (k : RelV B v x) : zad B (vs.set n v) (xs.set n x) :=
 h.ind (M := fun vs xs => ∀ n, zad B (vs.set n v) (xs.set n x)) (fun n => by rw [List.set_nil, List.set_nil]; exact .nil) (fun a q r n => by
  cases n with
  | zero => exact .cons k q
  | succ n => exact .cons a (r n)) n
inductive za6 {κ : Type} (B : Keep) : List (κ × Value) -> List (κ × V) -> Prop
 | nil : za6 B [] []
 | cons {k v x vs xs} : RelV B v x -> za6 B vs xs -> za6 B ((k, v) :: vs) ((k, x) :: xs)
theorem za6.mono {κ : Type} {B B' : Keep} (h : Le B B') {v : List (κ × Value)} {x : List (κ × V)} (r : za6 B v x) : za6 B' v x := by
 induction r with
 | nil => exact .nil
 | cons a _ q => exact .cons (a.mono h) q
theorem za6.keys {κ : Type} {B : Keep} {v : List (κ × Value)} {x : List (κ × V)} (r : za6 B v x) : v.map (·.1) = x.map (·.1) := by
 induction r with
 | nil => rfl
 | cons _ _ q => exact congrArg (_ :: ·) q
theorem za6.length {κ : Type} {B : Keep} {v : List (κ × Value)} {x : List (κ × V)} (h : za6 B v x) : v.length = x.length := by
 have := congrArg List.length h.keys; simpa using this
theorem za6.append {κ : Type} {B : Keep} {vs ws : List (κ × Value)} {xs ys : List (κ × V)} (r : za6 B vs xs) (h : za6 B ws ys) : za6 B (vs ++ ws) (xs ++ ys) := by
 induction r with
 | nil => exact h
 | cons a _ q => exact .cons a q
set_option genInjectivity false in
structure Hp where
 L : Addr -> Option (List V) := fun J => none
 D : Addr -> Option (List (Str × V)) := fun J => none
 P : Addr -> Option (List (Str × List Str)) := fun J => none
 S : Addr -> Option ((Str -> Bool) × Nat) := fun J => none
 I : Addr -> Option (Addr × Addr) := fun J => none
 C : Addr -> Option (Option V) := fun J => none
 G : Addr -> Option Nat := fun J => none
noncomputable def up {α : Type} (f : Addr -> Option α) (a : Addr) (x : α) : Addr -> Option α := fun b => if b = a then some x else f b
@[simp] theorem zac {α : Type} (f : Addr -> Option α) (a : Addr) (x : α) : up f a x a = some x := by simp [up]
noncomputable abbrev Hp.aL (H : Hp) (a : Addr) (x : List V) : Hp := { H with L := up H.L a x }
noncomputable abbrev Hp.aD (H : Hp) (a : Addr) (x : List (Str × V)) : Hp := { H with D := up H.D a x }
noncomputable abbrev Hp.aP (H : Hp) (a : Addr) (x : List (Str × List Str)) : Hp := { H with P := up H.P a x }
noncomputable abbrev Hp.aS (H : Hp) (a : Addr) (x : (Str -> Bool) × Nat) : Hp := { H with S := up H.S a x }
noncomputable abbrev Hp.aI (H : Hp) (a : Addr) (x : Addr × Addr) : Hp := { H with I := up H.I a x }
noncomputable abbrev Hp.aC (H : Hp) (a : Addr) (x : Option V) : Hp := { H with C := up H.C a x }
noncomputable abbrev Hp.aG (H : Hp) (a : Addr) (x : Nat) : Hp := { H with G := up H.G a x }
theorem zak {α : Type} {f : Addr -> Option α} {a b : Addr} {x : α} (h : b ≠ a) : up f a x b = f b := by simp [up, h]
theorem zcc {α : Type} {x : Option α} {y : α} (e : x = some y) : x ≠ none := fun h => nomatch h.symm.trans e
theorem zfn {α : Type} {f : Addr -> Option α} {a : Addr} {x z : α} (e : up f a x a = some z) : x = z := Option.some.inj ((zac f a x).symm.trans e)
theorem nn {α : Type} {x : Option α} {P : α -> Prop} (h : x = none) : ∀ y, x = some y -> P y := fun J e => nomatch h.symm.trans e
theorem zje {α : Type} {x : Option α} {k j : Nat} (h : ∀ y, x = some y -> k = j) (n : k ≠ j) : x = none := by
 cases x with
 | none => rfl
 | some y => exact absurd (h y rfl) n
theorem ci {x : Option Obj} {o o' : Obj} {d : Data} (q : x = some o) (q' : x = some o') (w : o'.data = d) : o.data.ctorIdx = d.ctorIdx := by rw [Option.some.inj (q.symm.trans q'), w]
noncomputable def Hp.Own (H : Hp) (a : Addr) : Prop := H.L a ≠ none ∨ H.D a ≠ none ∨ H.P a ≠ none ∨ H.S a ≠ none ∨ H.I a ≠ none ∨ H.C a ≠ none
set_option genInjectivity false in
structure Base where
 prog : Program
 w : World
 base : Heap
 os : OsState
 lim : Addr
 saved : List (Addr × Obj)
 lo : Keep
noncomputable def zc0 (B : Keep) : Option Value -> Option V -> Prop
 | none, none => True
 | some v, some x => RelV B v x
 | _, _ => False
theorem zc0.mono {B B' : Keep} (h : Le B B') {v x} (r : zc0 B v x) : zc0 B' v x := by
 cases v <;> cases x <;> first | exact trivial | exact r.elim | exact RelV.mono h r
noncomputable def ze3 (k : Str × List Str) : V := .tup [.str k.1, .tup (k.2.map .str)]
structure zas (c : Base) (B : Keep) (h : Heap) (H : Hp) (a : Addr) : Prop where
 out : H.Own a -> B a = none ∧ c.lim < a
 l : ∀ xs, H.L a = some xs -> ∃ items n, IsL h a items n ∧ zad B items.toList xs
 d : ∀ kvs, H.D a = some kvs -> (∀ p ∈ kvs, PyData.strOk p.1 = true) ∧ ∃ cs, h.DictOf (PySem.strKind c.prog c.w) a cs ∧ za6 B cs kvs
 p : ∀ ks, H.P a = some ks -> ∃ o es ep, ∃ xs : List ((Str × List Str) × Addr × Value), h.get? a = some o ∧ o.ExactDict ∧ o.data = .dict es ep ∧ es.toList = xs.map (entryOfKey (zdq c.prog c.w)) ∧ xs.map (·.1) = ks ∧ ks.Nodup ∧ ∀ x ∈ xs, RelV B (.ref x.2.1) (ze3 x.1)
 s : ∀ S, H.S a = some S -> h.SetOf (PySem.strKind c.prog c.w) a S.1 S.2
 i : ∀ Cd, H.I a = some Cd -> h.get? a = some (zcm Cd.1 Cd.2)
 c : ∀ ov, H.C a = some ov -> ∃ o v, h.get? a = some o ∧ o.data = .cell v ∧ zc0 B v ov
 dp : H.D a ≠ none -> H.P a = none
 g : ∀ ep, H.G a = some ep -> H.D a ≠ none ∧ ∃ o es, h.get? a = some o ∧ o.data = .dict es ep
theorem zas.mono {c : Base} {B B' : Keep} {h h' : Heap} {H : Hp} {a : Addr} (hB : Le B B') (hk : ∀ o, h.get? a = some o -> h'.get? a = some o) (hout : H.Own a -> B' a = none) (x : zas c B h H a) : zas c B' h' H a where
 out := fun h => ⟨hout h, (x.out h).2⟩
 l := fun xs e => (x.l xs e).imp fun J => Exists.imp fun J h => ⟨hk _ h.1, h.2.mono hB⟩
 d := fun kvs e => (x.d kvs e).imp id (Exists.imp fun J h => ⟨h.1.imp fun J => Exists.imp fun J => Exists.imp fun J h => ⟨hk _ h.1, h.2⟩, h.2.mono hB⟩)
 p := fun ks e => (x.p ks e).imp fun J => Exists.imp fun J => Exists.imp fun J => Exists.imp fun J h => ⟨hk _ h.1, h.2.1, h.2.2.1, h.2.2.2.1, h.2.2.2.2.1, h.2.2.2.2.2.1, fun y hy => (h.2.2.2.2.2.2 y hy).mono hB⟩
 s := fun S e => let ⟨o, q⟩ := x.s S e; by
  obtain ⟨es, ep, t, q1, q2⟩ := q
  exact ⟨o, es, ep, t, hk _ q1, q2⟩
 i := fun Cd e => hk _ (x.i Cd e)
 c := fun ov e => (x.c ov e).imp fun J => Exists.imp fun J h => ⟨hk _ h.1, h.2.1, h.2.2.mono hB⟩
 dp := x.dp
 g := fun ep e => (x.g ep e).imp id (Exists.imp fun J => Exists.imp fun J h => ⟨hk _ h.1, h.2⟩)
theorem zas.at_ {c : Base} {B : Keep} {h : Heap} {H : Hp} {a : Addr} (x : zas c B h H a) (o : H.Own a) : ∃ ob, h.get? a = some ob := by
 rcases o with e | e | e | e | e | e
 ·obtain ⟨xs, e⟩ := Option.ne_none_iff_exists'.mp e; obtain ⟨i, n, q, _⟩ := x.l xs e; exact ⟨_, q⟩
 ·obtain ⟨xs, e⟩ := Option.ne_none_iff_exists'.mp e; obtain ⟨_, cs, ⟨o, es, ep, q, z⟩, r⟩ := x.d xs e; exact ⟨_, q⟩
 ·obtain ⟨xs, e⟩ := Option.ne_none_iff_exists'.mp e; obtain ⟨o, es, ep, xs, q, _⟩ := x.p xs e; exact ⟨_, q⟩
 ·obtain ⟨xs, e⟩ := Option.ne_none_iff_exists'.mp e; obtain ⟨o, es, ep, t, q, _⟩ := x.s xs e; exact ⟨_, q⟩
 ·obtain ⟨xs, e⟩ := Option.ne_none_iff_exists'.mp e; exact ⟨_, x.i xs e⟩
 ·obtain ⟨xs, e⟩ := Option.ne_none_iff_exists'.mp e; obtain ⟨o, v, q, _⟩ := x.c xs e; exact ⟨_, q⟩
noncomputable def Hp.SameAt (H H' : Hp) (a : Addr) : Prop := H.L a = H'.L a ∧ H.D a = H'.D a ∧ H.P a = H'.P a ∧ H.S a = H'.S a ∧ H.I a = H'.I a ∧ H.C a = H'.C a ∧ H.G a = H'.G a
theorem Hp.SameAt.own {H H' : Hp} {a : Addr} (e : H.SameAt H' a) (o : H'.Own a) : H.Own a := by
 obtain ⟨e1, e2, e3, e4, e5, e6, _⟩ := e
 unfold Hp.Own at *
 rw [e1, e2, e3, e4, e5, e6]; exact o
theorem zas.same {c : Base} {B : Keep} {h : Heap} {H H' : Hp} {a : Addr} (e : H.SameAt H' a) (x : zas c B h H a) : zas c B h H' a := by
 have e' := e
 obtain ⟨e1, e2, e3, e4, e5, e6, e7⟩ := e
 exact ⟨fun o => x.out (e'.own o), fun y hy => x.l y (e1.trans hy), fun y hy => x.d y (e2.trans hy), fun y hy => x.p y (e3.trans hy), fun y hy => x.s y (e4.trans hy), fun y hy => x.i y (e5.trans hy), fun y hy => x.c y (e6.trans hy),
  fun z => by rw [← e3]; exact x.dp (by rw [e2]; exact z), fun y hy => by rw [← e2]; exact x.g y (e7.trans hy)⟩
noncomputable def zep (nm : List (Str × NameKind)) (x : Str) : Option Nat := nm.findIdx? fun p => p.1 == x
theorem zmr {nm : List (Str × NameKind)} {x y : Str} {i : Nat} (hx : zep nm x = some i) (hy : zep nm y = some i) : x = y := by
 obtain ⟨h1, h2, _⟩ := List.findIdx?_eq_some_iff_getElem.mp hx
 obtain ⟨_, h3, _⟩ := List.findIdx?_eq_some_iff_getElem.mp hy
 exact (eq_of_beq h2).symm.trans (eq_of_beq h3)
noncomputable def zdh (B : Keep) (nm : List (Str × NameKind)) (loc : List (Option V)) (m : Str -> Option Value) : Prop :=
 ∀ x i X, zep nm x = some i -> loc[i]? = some (some X) -> ∃ v, m x = some v ∧ RelV B v X
theorem zdh.mono {B B' : Keep} (h : Le B B') {nm loc m} (x : zdh B nm loc m) : zdh B' nm loc m :=
 fun y i X a b => let ⟨v, e, r⟩ := x y i X a b; ⟨v, e, r.mono h⟩
theorem zdh.set {B : Keep} {nm loc m} {x : Str} {i : Nat} {v : Value} {X : V} (h : zdh B nm loc m) (hx : zep nm x = some i) (hv : RelV B v X) : zdh B nm (loc.set i (some X)) (fun y => if y = x then some v else m y) := by
 intro y j Y hy hl
 by_cases e : y = x
 ·subst e
  obtain rfl : i = j := Option.some.inj (hx.symm.trans hy)
  rw [List.getElem?_set] at hl
  simp only [if_true] at hl
  split at hl
  ·cases hl; exact ⟨v, by simp, hv⟩
  ·cases hl
 ·have hne : i ≠ j := fun z => e (zmr hy (z ▸ hx))
  rw [List.getElem?_set_ne hne] at hl
  obtain ⟨u, e1, e2⟩ := h y j Y hy hl
  exact ⟨u, by simp [e, e1], e2⟩
noncomputable abbrev zf3 (ps : Array Value) : Obj := { cls := .none, data := .fields ps }
noncomputable abbrev znj : Obj := zf3 #[.none]
noncomputable def SvOk (q o : Obj) : Prop := (o.data = q.data ∧ ((∀ es ep, q.data ≠ .dict es ep) -> o = q)) ∨ (q = znj ∧ ∃ ps, o = zf3 ps)
theorem SvOk.dict {q o : Obj} {es ep} (h : SvOk q o) (e : q.data = .dict es ep) : o.data = q.data := by
 rcases h with h | ⟨h, _⟩
 ·exact h.1
 ·subst h; cases e
theorem SvOk.same {q o : Obj} (h : SvOk q o) (e : ∀ es ep, q.data ≠ .dict es ep) (hm : q ≠ znj) : o = q := by
 rcases h with h | ⟨h, _⟩
 ·exact h.2 e
 ·exact absurd h hm
theorem SvOk.seq {q o : Obj} {es ep} (h : SvOk q o) (e : q.data = .seq es ep) : o = q :=
 h.same (fun es ep z => by rw [e] at z; cases z) (fun z => by subst z; cases e)
structure Rel (c : Base) (L : Addr) (nm : List (Str × NameKind)) (B : Keep) (loc : List (Option V)) (H : Hp) (s : Shared) : Prop where
 keep : ∀ a o, B a = some o -> s.heap.get? a = some o
 based : (∀ a o, c.base.get? a = some o -> c.lo a = some o) ∧ Le c.lo B
 own : ∀ a, zas c B s.heap H a
 lB : B L = none
 lH : ¬ H.Own L
 ns : ∃ m, s.heap.Ns L m ∧ zdh B nm loc m
 gens : s.gens = #[]
 os : s.os = c.os
 lim : 1 ≤ c.lim ∧ ∃ o, c.base.get? c.lim = some o
 sv : ∀ p ∈ c.saved, (∃ o, s.heap.get? p.1 = some o ∧ SvOk p.2 o) ∧ B p.1 = none ∧ ¬ H.Own p.1 ∧ p.1 ≠ L
section
variable {c : Base} {L : Addr} {nm : List (Str × NameKind)} {B : Keep} {loc : List (Option V)} {H : Hp} {s : Shared}
theorem Rel.inBase (R : Rel c L nm B loc H s) {a : Addr} {o : Obj} (e : c.base.get? a = some o) : s.heap.get? a = some o := R.keep _ _ (R.based.2 _ _ (R.based.1 _ _ e))
theorem Rel.grow (R : Rel c L nm B loc H s) {s' : Shared} (hk : ∀ b o, s.heap.get? b = some o -> s'.heap.get? b = some o) (hg : s'.gens = s.gens) (ho : s'.os = s.os) : Rel c L nm B loc H s' where
 keep := fun a o e => hk _ _ (R.keep a o e)
 based := R.based
 own := fun a => (R.own a).mono (Le.refl _) (hk a) fun h => ((R.own a).out h).1
 lB := R.lB
 lH := R.lH
 ns := let ⟨m, n, l⟩ := R.ns; ⟨m, n.keeps hk, l⟩
 gens := hg.trans R.gens
 os := ho.trans R.os
 lim := R.lim
 sv := fun p hp => let ⟨⟨o, x1, y1⟩, x2⟩ := R.sv p hp; ⟨⟨o, hk _ _ x1, y1⟩, x2⟩
theorem Rel.tok (R : Rel c L nm B loc H s) (t : Nat) : Rel c L nm B loc H { s with toks := t } := R.grow (fun J J e => e) rfl rfl
theorem Rel.lt (R : Rel c L nm B loc H s) {a : Addr} {o : Obj} (e : B a = some o) : a < s.heap.objs.size := Heap.lt_size (R.keep _ _ e)
theorem Rel.fresh_B (R : Rel c L nm B loc H s) {a : Addr} (e : s.heap.get? a = none) : B a = none := by
 cases h : B a with
 | none => rfl
 | some o => rw [R.keep _ _ h] at e; cases e
theorem Rel.fresh_H (R : Rel c L nm B loc H s) {a : Addr} (e : s.heap.get? a = none) : ¬ H.Own a := fun h => by
 obtain ⟨o, q⟩ := (R.own a).at_ h
 rw [q] at e; cases e
theorem Rel.fresh_L (R : Rel c L nm B loc H s) {a : Addr} (e : s.heap.get? a = none) : a ≠ L := by
 rintro rfl
 obtain ⟨m, ⟨o, _, _, q, _⟩, _⟩ := R.ns
 rw [q] at e; cases e
theorem Rel.fresh (R : Rel c L nm B loc H s) {a : Addr} (hf : s.heap.objs.size ≤ a) : s.heap.get? a = none ∧ c.lim < a := by
 refine ⟨?_, ?_⟩
 ·cases e : s.heap.get? a with
  | none => rfl
  | some o => exact absurd (Heap.lt_size e) (Nat.not_lt.mpr hf)
 ·obtain ⟨_, o, e⟩ := R.lim
  exact Nat.lt_of_lt_of_le (Heap.lt_size (R.inBase e)) hf
theorem Rel.fresh_G (R : Rel c L nm B loc H s) {a : Addr} (e : s.heap.get? a = none) : H.G a = none := by
 cases h : H.G a with
 | none => rfl
 | some ep => obtain ⟨_, o, es, q, _⟩ := (R.own a).g _ h; rw [e] at q; cases q
theorem zbj {H : Hp} {a : Addr} (h : ¬ H.Own a) : H.L a = none ∧ H.D a = none ∧ H.P a = none ∧ H.S a = none ∧ H.I a = none ∧ H.C a = none := by
 unfold Hp.Own at h
 simp only [not_or, Decidable.not_not] at h
 exact h
noncomputable def addB (B : Keep) (a : Addr) (o : Obj) : Keep := fun b => if b = a then some o else B b
theorem zic {B : Keep} {a : Addr} {o : Obj} (h : B a = none) : Le B (addB B a o) := fun b p e => by
 unfold addB
 split
 ·rename_i z; subst z; rw [h] at e; cases e
 ·exact e
theorem Rel.hold (R : Rel c L nm B loc H s) {s' : Shared} {a : Addr} {o : Obj} (hf : s.heap.objs.size ≤ a) (hk : ∀ b o, s.heap.get? b = some o -> s'.heap.get? b = some o) (ha : s'.heap.get? a = some o) (hg : s'.gens = s.gens) (ho : s'.os = s.os) :
  Rel c L nm (addB B a o) loc H s' ∧ Le B (addB B a o) ∧ addB B a o a = some o := by
 have hf := (R.fresh hf).1
 have hle := zic (o := o) (R.fresh_B hf)
 refine ⟨⟨fun b p e => ?_, ⟨R.based.1, R.based.2.trans hle⟩, fun b => (R.own b).mono hle (hk b) fun h => ?_, ?_, R.lH, ?_, hg.trans R.gens, ho.trans R.os, R.lim, ?_⟩, hle, by simp [addB]⟩
 ·unfold addB at e
  split at e
  ·rename_i z; subst z; cases e; exact ha
  ·exact hk _ _ (R.keep _ _ e)
 ·unfold addB
  split
  ·rename_i z; subst z; exact absurd h (R.fresh_H hf)
  ·exact ((R.own b).out h).1
 ·unfold addB
  split
  ·rename_i z; exact absurd z.symm (R.fresh_L hf)
  ·exact R.lB
 ·obtain ⟨m, n, l⟩ := R.ns
  exact ⟨m, n.keeps hk, l.mono hle⟩
 ·intro p hp
  obtain ⟨⟨ob, x1, y1⟩, x2, x3⟩ := R.sv p hp
  refine ⟨⟨ob, hk _ _ x1, y1⟩, ?_, x3⟩
  unfold addB
  rw [if_neg]; exact x2
  rintro rfl; rw [hf] at x1; cases x1
theorem Rel.chg (R : Rel c L nm B loc H s) {s' : Shared} {H' : Hp} {a : Addr} (hB : B a = none) (hL : a ≠ L) (hS : ∀ p ∈ c.saved, p.1 ≠ a) (hk : ∀ b o, b ≠ a -> s.heap.get? b = some o -> s'.heap.get? b = some o) (hs : ∀ b, b ≠ a -> H.SameAt H' b)
  (hn : zas c B s'.heap H' a) (hg : s'.gens = s.gens) (ho : s'.os = s.os) : Rel c L nm B loc H' s' where
 keep := fun b o e => hk _ _ (fun z => by subst z; rw [hB] at e; cases e) (R.keep b o e)
 based := R.based
 own := fun b => by
  by_cases hb : b = a
  ·subst hb; exact hn
  ·exact ((R.own b).mono (Le.refl _) (fun o => hk b o hb) fun h => ((R.own b).out h).1).same (hs b hb)
 lB := R.lB
 lH := fun h => R.lH ((hs L (Ne.symm hL)).own h)
 ns := by
  obtain ⟨m, ⟨o, es, ep, q, z⟩, l⟩ := R.ns
  exact ⟨m, ⟨o, es, ep, hk _ _ (Ne.symm hL) q, z⟩, l⟩
 gens := hg.trans R.gens
 os := ho.trans R.os
 lim := R.lim
 sv := fun p hp => let ⟨⟨o, x1, y1⟩, x2, x3, x4⟩ := R.sv p hp; ⟨⟨o, hk _ _ (hS p hp) x1, y1⟩, x2, fun h => x3 ((hs p.1 (hS p hp)).own h), x4⟩
theorem zcd {α : Type} (f : Addr -> Option α) (a : Addr) (x : α) {b : Addr} (h : b ≠ a) : f b = up f a x b := (zak h).symm
theorem Rel.own_ne_L (R : Rel c L nm B loc H s) {a : Addr} (h : H.Own a) : a ≠ L := fun e => R.lH (e ▸ h)
theorem zas.rest {h : Heap} {a : Addr} {o : Obj} {k : Nat} (x : zas c B h H a) (q : h.get? a = some o) (ek : o.data.ctorIdx = k) :
  (k ≠ 2 -> H.L a = none) ∧ (k ≠ 3 -> H.D a = none ∧ H.P a = none ∧ H.G a = none) ∧ (k ≠ 4 -> H.S a = none) ∧ (k ≠ 0 -> H.I a = none) ∧ (k ≠ 6 -> H.C a = none) := by
 subst ek
 refine ⟨zje fun y z => ?_, fun n => ?_, zje fun y z => ?_, zje fun y z => ?_, zje fun y z => ?_⟩
 ·obtain ⟨i, n, q', _⟩ := x.l y z; exact ci q q' rfl
 ·have d : H.D a = none := zje (fun y z => by obtain ⟨_, cs, ⟨o', es, ep, q', _, w, _⟩, r⟩ := x.d y z; exact ci q q' w) n
  exact ⟨d, zje (fun y z => by obtain ⟨o', es, ep, xs, q', _, w, _⟩ := x.p y z; exact ci q q' w) n, zje (k := 0) (j := 1) (fun y z => absurd d (x.g y z).1) (by decide)⟩
 ·obtain ⟨o', es, ep, t, q', _, w, _⟩ := x.s y z; exact ci q q' w
 ·exact ci q (x.i y z) rfl
 ·obtain ⟨o', v, q', w, _⟩ := x.c y z; exact ci q q' w
section
variable {h : Heap} {a : Addr}
theorem zgi {H : Hp} (l : H.L a = none) (d : H.D a = none) (p : H.P a = none) (s : H.S a = none) (i : H.I a = none) (c : H.C a = none) : ¬ H.Own a := fun o => o.elim (fun h => h l) fun o => o.elim (fun h => h d) fun o => o.elim (fun h => h p) fun o => o.elim (fun h => h s) fun o => o.elim (fun h => h i) fun h => h c
theorem zas.noG (x : zas c B h H a) (d : H.D a = none) : H.G a = none := zje (k := 0) (j := 1) (fun y z => absurd d (x.g y z).1) (by decide)
theorem zas.noL {xs : List V} (x : zas c B h H a) (e : H.L a = some xs) : H.D a = none ∧ H.P a = none ∧ H.S a = none ∧ H.I a = none ∧ H.C a = none ∧ H.G a = none := by
 obtain ⟨_, _, q, _⟩ := x.l _ e
 have r := x.rest q (k := 2) rfl
 have d := r.2.1 (by decide)
 exact ⟨d.1, d.2.1, r.2.2.1 (by decide), r.2.2.2.1 (by decide), r.2.2.2.2 (by decide), d.2.2⟩
theorem zas.noD {kvs : List (Str × V)} (x : zas c B h H a) (e : H.D a = some kvs) (eG : H.G a = none) : H.L a = none ∧ H.P a = none ∧ H.S a = none ∧ H.I a = none ∧ H.C a = none ∧ H.G a = none := by
 obtain ⟨_, _, ⟨o, es, ep, q, _, w, _⟩, _⟩ := x.d _ e
 have r := x.rest q (k := 3) (by rw [w]; rfl)
 exact ⟨r.1 (by decide), x.dp (zcc e), r.2.2.1 (by decide), r.2.2.2.1 (by decide), r.2.2.2.2 (by decide), eG⟩
theorem zas.noP {ks : List (Str × List Str)} (x : zas c B h H a) (e : H.P a = some ks) (eG : H.G a = none) : H.L a = none ∧ H.D a = none ∧ H.S a = none ∧ H.I a = none ∧ H.C a = none ∧ H.G a = none := by
 obtain ⟨o, es, ep, xs, q, _, w, _⟩ := x.p _ e
 have r := x.rest q (k := 3) (by rw [w]; rfl)
 exact ⟨r.1 (by decide), Classical.byContradiction fun z => zcc e (x.dp z), r.2.2.1 (by decide), r.2.2.2.1 (by decide), r.2.2.2.2 (by decide), eG⟩
theorem zas.noS {S : (Str -> Bool) × Nat} (x : zas c B h H a) (e : H.S a = some S) : H.L a = none ∧ H.D a = none ∧ H.P a = none ∧ H.I a = none ∧ H.C a = none ∧ H.G a = none := by
 obtain ⟨o, es, ep, t, q, _, w, _⟩ := x.s _ e
 have r := x.rest q (k := 4) (by rw [w]; rfl)
 have d := r.2.1 (by decide)
 exact ⟨r.1 (by decide), d.1, d.2.1, r.2.2.2.1 (by decide), r.2.2.2.2 (by decide), d.2.2⟩
theorem zas.noI {C : Addr × Addr} (x : zas c B h H a) (e : H.I a = some C) : H.L a = none ∧ H.D a = none ∧ H.P a = none ∧ H.S a = none ∧ H.C a = none ∧ H.G a = none := by
 have r := x.rest (k := 0) (x.i _ e) rfl
 have d := r.2.1 (by decide)
 exact ⟨r.1 (by decide), d.1, d.2.1, r.2.2.1 (by decide), r.2.2.2.2 (by decide), d.2.2⟩
theorem zas.noC {ov : Option V} (x : zas c B h H a) (e : H.C a = some ov) : H.L a = none ∧ H.D a = none ∧ H.P a = none ∧ H.S a = none ∧ H.I a = none ∧ H.G a = none := by
 obtain ⟨o, v, q, w, _⟩ := x.c _ e
 have r := x.rest q (k := 6) (by rw [w]; rfl)
 have d := r.2.1 (by decide)
 exact ⟨r.1 (by decide), d.1, d.2.1, r.2.2.1 (by decide), r.2.2.2.1 (by decide), d.2.2⟩
theorem zas.ofL {xs : List V} {items : Array Value} {n : Nat} (ho : B a = none ∧ c.lim < a) (y : H.D a = none ∧ H.P a = none ∧ H.S a = none ∧ H.I a = none ∧ H.C a = none ∧ H.G a = none) (hn : IsL h a items n) (hr : zad B items.toList xs) : zas c B h (H.aL a xs) a :=
 ⟨fun J => ho, fun J e => zfn e ▸ ⟨_, _, hn, hr⟩, nn y.1, nn y.2.1, nn y.2.2.1, nn y.2.2.2.1, nn y.2.2.2.2.1, fun J => y.2.1, nn y.2.2.2.2.2⟩
theorem zas.ofD {kvs : List (Str × V)} {cs : List (Str × Value)} (ho : B a = none ∧ c.lim < a) (y : H.L a = none ∧ H.P a = none ∧ H.S a = none ∧ H.I a = none ∧ H.C a = none ∧ H.G a = none) (hk : ∀ p ∈ kvs, PyData.strOk p.1 = true) (hn : h.DictOf (PySem.strKind c.prog c.w) a cs) (hr : za6 B cs kvs) : zas c B h (H.aD a kvs) a :=
 ⟨fun J => ho, nn y.1, fun J e => zfn e ▸ ⟨hk, _, hn, hr⟩, nn y.2.1, nn y.2.2.1, nn y.2.2.2.1, nn y.2.2.2.2.1, fun J => y.2.1, nn y.2.2.2.2.2⟩
theorem zas.ofP {ks : List (Str × List Str)} {o : Obj} {es : Array DictEntry} {ep : Nat} {xs : List ((Str × List Str) × Addr × Value)} (ho : B a = none ∧ c.lim < a) (y : H.L a = none ∧ H.D a = none ∧ H.S a = none ∧ H.I a = none ∧ H.C a = none ∧ H.G a = none) (hn : h.get? a = some o) (hx : o.ExactDict) (hd : o.data = .dict es ep) (he : es.toList = xs.map (entryOfKey (zdq c.prog c.w))) (hm : xs.map (·.1) = ks) (hu : ks.Nodup) (hr : ∀ x ∈ xs, RelV B (.ref x.2.1) (ze3 x.1)) : zas c B h (H.aP a ks) a :=
 ⟨fun J => ho, nn y.1, nn y.2.1, fun J e => zfn e ▸ ⟨_, _, _, _, hn, hx, hd, he, hm, hu, hr⟩, nn y.2.2.1, nn y.2.2.2.1, nn y.2.2.2.2.1, fun z => absurd y.2.1 z, nn y.2.2.2.2.2⟩
theorem zas.ofS {S : (Str -> Bool) × Nat} (ho : B a = none ∧ c.lim < a) (y : H.L a = none ∧ H.D a = none ∧ H.P a = none ∧ H.I a = none ∧ H.C a = none ∧ H.G a = none) (hn : h.SetOf (PySem.strKind c.prog c.w) a S.1 S.2) : zas c B h (H.aS a S) a :=
 ⟨fun J => ho, nn y.1, nn y.2.1, nn y.2.2.1, fun J e => zfn e ▸ hn, nn y.2.2.2.1, nn y.2.2.2.2.1, fun J => y.2.2.1, nn y.2.2.2.2.2⟩
theorem zas.ofI {C : Addr × Addr} (ho : B a = none ∧ c.lim < a) (y : H.L a = none ∧ H.D a = none ∧ H.P a = none ∧ H.S a = none ∧ H.C a = none ∧ H.G a = none) (hn : h.get? a = some (zcm C.1 C.2)) : zas c B h (H.aI a C) a :=
 ⟨fun J => ho, nn y.1, nn y.2.1, nn y.2.2.1, nn y.2.2.2.1, fun J e => zfn e ▸ hn, nn y.2.2.2.2.1, fun J => y.2.2.1, nn y.2.2.2.2.2⟩
theorem zas.ofC {ov : Option V} {o : Obj} {v : Option Value} (ho : B a = none ∧ c.lim < a) (y : H.L a = none ∧ H.D a = none ∧ H.P a = none ∧ H.S a = none ∧ H.I a = none ∧ H.G a = none) (hn : h.get? a = some o) (hd : o.data = .cell v) (hr : zc0 B v ov) : zas c B h (H.aC a ov) a :=
 ⟨fun J => ho, nn y.1, nn y.2.1, nn y.2.2.1, nn y.2.2.2.1, nn y.2.2.2.2.1, fun J e => zfn e ▸ ⟨_, _, hn, hd, hr⟩, fun J => y.2.2.1, nn y.2.2.2.2.2⟩
end
theorem Rel.of_old (R : Rel c L nm B loc H s) {s' : Shared} {a : Addr} {H' : Hp} (hw : H.Own a) (hk : ∀ b o, b ≠ a -> s.heap.get? b = some o -> s'.heap.get? b = some o) (hs : ∀ b, b ≠ a -> H.SameAt H' b)
  (hn : zas c B s'.heap H' a) (hg : s'.gens = s.gens) (ho : s'.os = s.os) : Rel c L nm B loc H' s' :=
 R.chg ((R.own a).out hw).1 (R.own_ne_L hw) (fun p hp e => (R.sv p hp).2.2.1 (e ▸ hw)) hk hs hn hg ho
theorem Rel.of_new (R : Rel c L nm B loc H s) {s' : Shared} {a : Addr} {H' : Hp} (hf : s.heap.objs.size ≤ a) (hk : ∀ b o, s.heap.get? b = some o -> s'.heap.get? b = some o) (hs : ∀ b, b ≠ a -> H.SameAt H' b)
  (hn : zas c B s'.heap H' a) (hg : s'.gens = s.gens) (ho : s'.os = s.os) : Rel c L nm B loc H' s' :=
 R.chg (R.fresh_B (R.fresh hf).1) (R.fresh_L (R.fresh hf).1) (fun p hp e => by obtain ⟨o, h1, _⟩ := (R.sv p hp).1; rw [e, (R.fresh hf).1] at h1; cases h1) (fun b o J e => hk b o e) hs hn hg ho
theorem Rel.setL (R : Rel c L nm B loc H s) {s' : Shared} {a : Addr} {xs xs' : List V} (e : H.L a = some xs) (hk : ∀ b o, b ≠ a -> s.heap.get? b = some o -> s'.heap.get? b = some o) {items : Array Value} {n : Nat} (hn : IsL s'.heap a items n) (hr : zad B items.toList xs') (hg : s'.gens = s.gens) (ho : s'.os = s.os) : Rel c L nm B loc (H.aL a xs') s' :=
 have hw : H.Own a := .inl (zcc e)
 R.of_old hw hk (fun b hb => ⟨zcd _ _ _ hb, rfl, rfl, rfl, rfl, rfl, rfl⟩) (.ofL ((R.own a).out hw) ((R.own a).noL e) hn hr) hg ho
theorem Rel.newL (R : Rel c L nm B loc H s) {s' : Shared} {a : Addr} {xs' : List V} (hf : s.heap.objs.size ≤ a) (hk : ∀ b o, s.heap.get? b = some o -> s'.heap.get? b = some o) {items : Array Value} {n : Nat} (hn : IsL s'.heap a items n) (hr : zad B items.toList xs') (hg : s'.gens = s.gens) (ho : s'.os = s.os) : Rel c L nm B loc (H.aL a xs') s' :=
 have hf0 := hf
 have hf := R.fresh hf
 have x := zbj (R.fresh_H hf.1)
 R.of_new hf0 hk (fun b hb => ⟨zcd _ _ _ hb, rfl, rfl, rfl, rfl, rfl, rfl⟩) (.ofL ⟨R.fresh_B hf.1, hf.2⟩ ⟨x.2.1, x.2.2.1, x.2.2.2.1, x.2.2.2.2.1, x.2.2.2.2.2, R.fresh_G hf.1⟩ hn hr) hg ho
theorem Rel.setD (R : Rel c L nm B loc H s) {s' : Shared} {a : Addr} {kvs kvs' : List (Str × V)} (e : H.D a = some kvs) (eG : H.G a = none) (hk : ∀ b o, b ≠ a -> s.heap.get? b = some o -> s'.heap.get? b = some o) {cs : List (Str × Value)} (hkk : ∀ p ∈ kvs', PyData.strOk p.1 = true) (hn : s'.heap.DictOf (PySem.strKind c.prog c.w) a cs) (hr : za6 B cs kvs') (hg : s'.gens = s.gens) (ho : s'.os = s.os) : Rel c L nm B loc (H.aD a kvs') s' :=
 have hw : H.Own a := .inr (.inl (zcc e))
 R.of_old hw hk (fun b hb => ⟨rfl, zcd _ _ _ hb, rfl, rfl, rfl, rfl, rfl⟩) (.ofD ((R.own a).out hw) ((R.own a).noD e eG) hkk hn hr) hg ho
theorem Rel.newD (R : Rel c L nm B loc H s) {s' : Shared} {a : Addr} {kvs' : List (Str × V)} (hf : s.heap.objs.size ≤ a) (hk : ∀ b o, s.heap.get? b = some o -> s'.heap.get? b = some o) {cs : List (Str × Value)} (hkk : ∀ p ∈ kvs', PyData.strOk p.1 = true) (hn : s'.heap.DictOf (PySem.strKind c.prog c.w) a cs) (hr : za6 B cs kvs') (hg : s'.gens = s.gens) (ho : s'.os = s.os) : Rel c L nm B loc (H.aD a kvs') s' :=
 have hf0 := hf
 have hf := R.fresh hf
 have x := zbj (R.fresh_H hf.1)
 R.of_new hf0 hk (fun b hb => ⟨rfl, zcd _ _ _ hb, rfl, rfl, rfl, rfl, rfl⟩) (.ofD ⟨R.fresh_B hf.1, hf.2⟩ ⟨x.1, x.2.2.1, x.2.2.2.1, x.2.2.2.2.1, x.2.2.2.2.2, R.fresh_G hf.1⟩ hkk hn hr) hg ho
theorem Rel.setP (R : Rel c L nm B loc H s) {s' : Shared} {a : Addr} {ks ks' : List (Str × List Str)} (e : H.P a = some ks) (eG : H.G a = none) (hk : ∀ b o, b ≠ a -> s.heap.get? b = some o -> s'.heap.get? b = some o) {o : Obj} {es : Array DictEntry} {ep : Nat} {xs : List ((Str × List Str) × Addr × Value)} (hn : s'.heap.get? a = some o) (hx : o.ExactDict) (hd : o.data = .dict es ep) (he : es.toList = xs.map (entryOfKey (zdq c.prog c.w))) (hm : xs.map (·.1) = ks') (hu : ks'.Nodup) (hr : ∀ x ∈ xs, RelV B (.ref x.2.1) (ze3 x.1)) (hg : s'.gens = s.gens) (ho : s'.os = s.os) : Rel c L nm B loc (H.aP a ks') s' :=
 have hw : H.Own a := .inr (.inr (.inl (zcc e)))
 R.of_old hw hk (fun b hb => ⟨rfl, rfl, zcd _ _ _ hb, rfl, rfl, rfl, rfl⟩) (.ofP ((R.own a).out hw) ((R.own a).noP e eG) hn hx hd he hm hu hr) hg ho
theorem Rel.setS (R : Rel c L nm B loc H s) {s' : Shared} {a : Addr} {S S' : (Str -> Bool) × Nat} (e : H.S a = some S) (eG : H.G a = none) (hk : ∀ b o, b ≠ a -> s.heap.get? b = some o -> s'.heap.get? b = some o) (hn : s'.heap.SetOf (PySem.strKind c.prog c.w) a S'.1 S'.2) (hg : s'.gens = s.gens) (ho : s'.os = s.os) : Rel c L nm B loc (H.aS a S') s' :=
 have hw : H.Own a := .inr (.inr (.inr (.inl (zcc e))))
 R.of_old hw hk (fun b hb => ⟨rfl, rfl, rfl, zcd _ _ _ hb, rfl, rfl, rfl⟩) (.ofS ((R.own a).out hw) ((R.own a).noS e) hn) hg ho
theorem Rel.newS (R : Rel c L nm B loc H s) {s' : Shared} {a : Addr} {S' : (Str -> Bool) × Nat} (hf : s.heap.objs.size ≤ a) (hk : ∀ b o, s.heap.get? b = some o -> s'.heap.get? b = some o) (hn : s'.heap.SetOf (PySem.strKind c.prog c.w) a S'.1 S'.2) (hg : s'.gens = s.gens) (ho : s'.os = s.os) : Rel c L nm B loc (H.aS a S') s' :=
 have hf0 := hf
 have hf := R.fresh hf
 have x := zbj (R.fresh_H hf.1)
 R.of_new hf0 hk (fun b hb => ⟨rfl, rfl, rfl, zcd _ _ _ hb, rfl, rfl, rfl⟩) (.ofS ⟨R.fresh_B hf.1, hf.2⟩ ⟨x.1, x.2.1, x.2.2.1, x.2.2.2.2.1, x.2.2.2.2.2, R.fresh_G hf.1⟩ hn) hg ho
theorem Rel.newI (R : Rel c L nm B loc H s) {s' : Shared} {a : Addr} {Cd' : Addr × Addr} (hf : s.heap.objs.size ≤ a) (hk : ∀ b o, s.heap.get? b = some o -> s'.heap.get? b = some o) (hn : s'.heap.get? a = some (zcm Cd'.1 Cd'.2)) (hg : s'.gens = s.gens) (ho : s'.os = s.os) : Rel c L nm B loc (H.aI a Cd') s' :=
 have hf0 := hf
 have hf := R.fresh hf
 have x := zbj (R.fresh_H hf.1)
 R.of_new hf0 hk (fun b hb => ⟨rfl, rfl, rfl, rfl, zcd _ _ _ hb, rfl, rfl⟩) (.ofI ⟨R.fresh_B hf.1, hf.2⟩ ⟨x.1, x.2.1, x.2.2.1, x.2.2.2.1, x.2.2.2.2.2, R.fresh_G hf.1⟩ hn) hg ho
theorem Rel.setC (R : Rel c L nm B loc H s) {s' : Shared} {a : Addr} {ov ov' : Option V} (e : H.C a = some ov) (hk : ∀ b o, b ≠ a -> s.heap.get? b = some o -> s'.heap.get? b = some o) {o : Obj} {v : Option Value} (hn : s'.heap.get? a = some o) (hd : o.data = .cell v) (hr : zc0 B v ov') (hg : s'.gens = s.gens) (ho : s'.os = s.os) : Rel c L nm B loc (H.aC a ov') s' :=
 have hw : H.Own a := .inr (.inr (.inr (.inr (.inr (zcc e)))))
 R.of_old hw hk (fun b hb => ⟨rfl, rfl, rfl, rfl, rfl, zcd _ _ _ hb, rfl⟩) (.ofC ((R.own a).out hw) ((R.own a).noC e) hn hd hr) hg ho
end
set_option genInjectivity false in
structure Fx where
 c : Base
 A : Around
 env : Env
 E : Value -> Shared -> Prop
noncomputable abbrev Fx.M (F : Fx) : Model := model F.c.prog F.c.w
noncomputable abbrev Fx.nm (F : Fx) : List (Str × NameKind) := F.env.scope.names
noncomputable abbrev Fx.L (F : Fx) : Addr := F.env.locals
noncomputable abbrev Loc := List (Option V)
noncomputable abbrev FRel (F : Fx) (B : Keep) (loc : Loc) (H : Hp) (s : Shared) : Prop := Rel F.c F.L F.nm B loc H s
noncomputable def Post (F : Fx) {α β : Type} (ρ : Keep -> α -> β -> Prop) (B : Keep) (Q : β -> Loc -> Hp -> Prop) : α -> Shared -> Prop :=
 fun a s' => ∃ B' b loc' H', Le B B' ∧ ρ B' a b ∧ FRel F B' loc' H' s' ∧ Q b loc' H'
noncomputable def PW (F : Fx) {α β : Type} (t : Sem α) (ρ : Keep -> α -> β -> Prop) (B : Keep) (s : Shared) (Q : β -> Loc -> Hp -> Prop) : Prop :=
 wpAny F.M F.A t (Post F ρ B Q) F.E s
noncomputable abbrev eqR {α : Type} : Keep -> α -> α -> Prop := fun J a b => a = b
theorem Post.lift {F : Fx} {α β : Type} {ρ : Keep -> α -> β -> Prop} {B B' : Keep} (h : Le B B') {Q : β -> Loc -> Hp -> Prop} {a : α} {s' : Shared} (p : Post F ρ B' Q a s') : Post F ρ B Q a s' := by
 obtain ⟨B2, b, loc', H', l, r⟩ := p
 exact ⟨B2, b, loc', H', h.trans l, r⟩
theorem PW.lift {F : Fx} {α β : Type} {t : Sem α} {ρ : Keep -> α -> β -> Prop} {B B' : Keep} (h : Le B B') {s : Shared} {Q : β -> Loc -> Hp -> Prop} (p : PW F t ρ B' s Q) : PW F t ρ B s Q :=
 wpAny_mono p (fun J J x => x.lift h) fun J J x => x
theorem PW.mono {F : Fx} {α β : Type} {t : Sem α} {ρ : Keep -> α -> β -> Prop} {B : Keep} {s : Shared} {Q Q' : β -> Loc -> Hp -> Prop} (p : PW F t ρ B s Q) (h : ∀ b l H, Q b l H -> Q' b l H) : PW F t ρ B s Q' :=
 wpAny_mono p (fun _ _ ⟨B', b, l, H, x1, x2, x3, x4⟩ => ⟨B', b, l, H, x1, x2, x3, h _ _ _ x4⟩) fun J J x => x
theorem Post.pure {F : Fx} {α β : Type} {ρ : Keep -> α -> β -> Prop} {B : Keep} {Q : β -> Loc -> Hp -> Prop} {a : α} {s : Shared} {b : β} {loc : Loc} {H : Hp} (r : ρ B a b) (R : FRel F B loc H s) (q : Q b loc H) : Post F ρ B Q a s :=
 ⟨B, b, loc, H, Le.refl _, r, R, q⟩
theorem PW.then {F : Fx} {α β : Type} {t : Sem α} {ρ : Keep -> α -> β -> Prop} {B : Keep} {s : Shared} {Q : β -> Loc -> Hp -> Prop} {P : α -> Shared -> Prop} (p : PW F t ρ B s Q)
  (k : ∀ a B' b l H s', Le B B' -> ρ B' a b -> FRel F B' l H s' -> Q b l H -> P a s') : wpAny F.M F.A t P F.E s :=
 wpAny_mono p (fun a s' ⟨B', b, l, H, x1, x2, x3, x4⟩ => k a B' b l H s' x1 x2 x3 x4) fun J J x => x
noncomputable def WE (F : Fx) (e : Expr) (loc : Loc) (H : Hp) (Q : V -> Loc -> Hp -> Prop) : Prop := ∀ B s, FRel F B loc H s -> PW F (eval e F.env) RelV B s Q
noncomputable def WB (F : Fx) (e : Expr) (loc : Loc) (H : Hp) (Q : Bool -> Loc -> Hp -> Prop) : Prop := ∀ B s, FRel F B loc H s -> PW F (isTrue e F.env (eval e F.env)) eqR B s Q
inductive Fl where
 | next | brk | cont | ret (x : V)
inductive RelF (B : Keep) : Flow -> Fl -> Prop
 | next : RelF B .next .next
 | brk : RelF B .brk .brk
 | cont : RelF B .cont .cont
 | ret {v x} : RelV B v x -> RelF B (.ret v) (.ret x)
noncomputable def WS (F : Fx) (st : Stmt) (loc : Loc) (H : Hp) (Q : Fl -> Loc -> Hp -> Prop) : Prop := ∀ B s, FRel F B loc H s -> PW F (exec st F.env) RelF B s Q
noncomputable def WSs (F : Fx) (st : List Stmt) (loc : Loc) (H : Hp) (Q : Fl -> Loc -> Hp -> Prop) : Prop := ∀ B s, FRel F B loc H s -> PW F (execs st F.env) RelF B s Q
theorem WE.mono {F : Fx} {e loc H} {Q Q' : V -> Loc -> Hp -> Prop} (h : WE F e loc H Q) (k : ∀ x l H, Q x l H -> Q' x l H) : WE F e loc H Q' := fun B s R => (h B s R).mono k
theorem WB.mono {F : Fx} {e loc H} {Q Q' : Bool -> Loc -> Hp -> Prop} (h : WB F e loc H Q) (k : ∀ x l H, Q x l H -> Q' x l H) : WB F e loc H Q' := fun B s R => (h B s R).mono k
theorem WS.mono {F : Fx} {e loc H} {Q Q' : Fl -> Loc -> Hp -> Prop} (h : WS F e loc H Q) (k : ∀ x l H, Q x l H -> Q' x l H) : WS F e loc H Q' := fun B s R => (h B s R).mono k
noncomputable def Op2 (F : Fx) (t : Value -> Value -> Sem Value) (X Y : V) (loc : Loc) (H : Hp) (Q : V -> Loc -> Hp -> Prop) : Prop :=
 ∀ B s a b, FRel F B loc H s -> RelV B a X -> RelV B b Y -> PW F (t a b) RelV B s Q
noncomputable abbrev zvq : Keep -> Value -> Bool -> Prop := fun J v b => v = .bool b
noncomputable def Cmp (F : Fx) (op : CmpOp) (X Y : V) (loc : Loc) (H : Hp) (Q : Bool -> Loc -> Hp -> Prop) : Prop :=
 ∀ B s a b, FRel F B loc H s -> RelV B a X -> RelV B b Y -> PW F (compareOp op a b) zvq B s Q
noncomputable def Tru (F : Fx) (X : V) (loc : Loc) (H : Hp) (Q : Bool -> Loc -> Hp -> Prop) : Prop :=
 ∀ B s a, FRel F B loc H s -> RelV B a X -> PW F (truthy a) eqR B s Q
structure Ok (F : Fx) (n : Nat) : Prop where
 fn : F.env.scope.kind = .function
 glob : F.env.globals = mainGlobals
 bi : F.env.builtins = builtinsNs
 dbg : F.nm.lookup ("__debug__" : Str) = none
 units : F.A.units + 40 * n + 200 < cLine
 depth : F.A.depth + 4 * n + 4 < recursionLimit
 handled : n ≠ 0 -> F.A.handled = none
 fr : ∃ fl, F.A.frames = some fl ∧ ∀ e ∈ fl, e.scope.kind ≠ .module ∧ (e.frame = some F.L ∨ ∃ p ∈ F.c.saved, e.frame = some p.1 ∧ ∃ es ep, p.2.data = .dict es ep)
noncomputable def Top (F : Fx) : Prop := ∃ outer, F.A.frames = some (F.env :: outer) ∧ F.env.frame = some F.L
noncomputable def look : List (Str × NameKind) -> Str -> Option (Nat × NameKind)
 | [], _ => none
 | (y, k) :: r, x => if y == x then some (0, k) else (look r x).map fun p => (p.1 + 1, p.2)
theorem zbw : ∀ {nm : List (Str × NameKind)} {x : Str} {i : Nat} {k : NameKind}, look nm x = some (i, k) -> zep nm x = some i ∧ nm.lookup x = some k
 | [], _, _, _, h => by cases h
 | (y, k') :: r, x, i, k, h => by
  unfold look at h
  split at h
  ·rename_i e
   cases h
   obtain rfl := eq_of_beq e
   simp [zep, List.findIdx?_cons]
  ·rename_i e
   obtain ⟨⟨j, k2⟩, hp, he⟩ := Option.map_eq_some_iff.mp h
   cases he
   obtain ⟨h1, h2⟩ := zbw hp
   refine ⟨?_, ?_⟩
   ·unfold zep at h1 ⊢
    rw [List.findIdx?_cons]
    simp only [e, Bool.false_eq_true, if_false, h1, Option.map_some]
   ·have e' : (x == y) = false := by
     cases z : x == y with
     | false => rfl
     | true => exact absurd (by rw [eq_of_beq z]; exact beq_self_eq_true y) e
    rw [List.lookup_cons, e']; exact h2
section
variable {F : Fx} {n : Nat} {loc : Loc} {H : Hp}
theorem zgr (ok : Ok F n) {x : Str} {k : NameKind} (h : F.nm.lookup x = some k) : (x == ("__debug__" : Str)) = false := by
 cases z : x == ("__debug__" : Str) with
 | false => rfl
 | true => rw [eq_of_beq z, ok.dbg] at h; cases h
theorem zpl (ok : Ok F n) {x : Str} {pos : Pos} {i : Nat} {X : V} {Q : V -> Loc -> Hp -> Prop} (hx : look F.nm x = some (i, .local)) (hv : loc[i]? = some (some X)) (q : Q X loc H) : WE F (.Name x pos) loc H Q := fun B s R => by
 obtain ⟨h1, h2⟩ := zbw hx
 obtain ⟨m, hm, hl⟩ := R.ns
 obtain ⟨v, e, r⟩ := hl x i X h1 hv
 exact wpAny_Name (wpAny_loadName_local ok.fn h2 hm e (Post.pure r R q)) (zgr ok h2)
theorem znn {B : Keep} {s : Shared} (R : FRel F B loc H s) : Le (fun a => F.c.base.get? a) B := fun a o e => R.based.2 _ _ (R.based.1 a o e)
theorem zno (ok : Ok F n) {K : Frag} {mg : Str -> Option Value} (hK : K.In F.c.base) (hg : F.c.base.Ns mainGlobals mg) {x : Str} {pos : Pos} {i : Nat} {v : Value} {X : V} {Q : V -> Loc -> Hp -> Prop} (hx : look F.nm x = some (i, .globalImplicit)) (e : nsIn K mainGlobals x = some (some v))
  (r : RelV (fun a => F.c.base.get? a) v X) (q : Q X loc H) : WE F (.Name x pos) loc H Q := fun B s R => by
 obtain ⟨h1, h2⟩ := zbw hx
 refine Name_function_global ok.fn h2 (loadGlobal_global (mg := mg) ?_ (mg_of hK hg e) (Post.pure (r.mono (znn R)) R q)) (zgr ok h2)
 rw [ok.glob]; exact hg.keeps fun b o e => R.inBase e
theorem zms (ok : Ok F n) {K : Frag} {mg mb : Str -> Option Value} (hK : K.In F.c.base) (hg : F.c.base.Ns mainGlobals mg) (hb : F.c.base.Ns builtinsNs mb) (hbb : ∀ x : Str, x ≠ "__name__" -> mb x = bootBuiltins x) {x : Str} {pos : Pos} {i : Nat} {v : Value} {Q : V -> Loc -> Hp -> Prop}
  (hx : look F.nm x = some (i, .globalImplicit)) (e : nsIn K mainGlobals x = some none) (hv : bootBuiltins x = some v) (hn : x ≠ "__name__") (q : Q (.raw v) loc H) : WE F (.Name x pos) loc H Q := fun B s R => by
 obtain ⟨h1, h2⟩ := zbw hx
 refine Name_function_global ok.fn h2 (loadGlobal_builtin (mg := mg) (mb := mb) ?_ (mg_none_of hK hg e) ?_ ((hbb x hn).trans hv) (Post.pure (.raw v) R q)) (zgr ok h2)
 ·rw [ok.glob]; exact hg.keeps fun b o e => R.inBase e
 ·rw [ok.bi]; exact hb.keeps fun b o e => R.inBase e
theorem zar (x : String) : PyData.strOk (Str.ofString x) = true := by
 rw [Str.ofString_eq_toList]
 unfold PyData.strOk
 simp only [List.all_toArray, List.all_map, List.all_eq_true, Function.comp]
 intro c _
 have h := c.valid
 have ht : c.toNat = c.val.toNat := rfl
 rcases h with h | h
 ·exact decide_eq_true (by rw [ht]; lia)
 ·exact decide_eq_true (by rw [ht]; exact h.2)
theorem zbu {i : Int} {k : Nat} {pos : Pos} {Q : V -> Loc -> Hp -> Prop} (q : Q (.int i) loc H) : WE F (.Constant (.int i) k pos) loc H Q := fun B s R =>
 wpAny_Constant_int (Post.pure (.int i _) (R.tok _) q)
theorem zdw {x : String} {k : Nat} {pos : Pos} {Q : V -> Loc -> Hp -> Prop} (q : Q (.str (Str.ofString x)) loc H) : WE F (.Constant (.str (Str.ofString x)) k pos) loc H Q := fun B s R =>
 Constant_str (Post.pure (.str _ _ (zar x)) (R.tok _) q)
theorem znp {b : Bool} {k : Nat} {pos : Pos} {Q : V -> Loc -> Hp -> Prop} (q : Q (.bool b) loc H) : WE F (.Constant (.bool b) k pos) loc H Q := fun B s R =>
 wpAny_pure (Post.pure (.bool b) R q)
theorem zer {k : Nat} {pos : Pos} {Q : V -> Loc -> Hp -> Prop} (q : Q .none loc H) : WE F (.Constant .none k pos) loc H Q := fun B s R =>
 wpAny_pure (Post.pure .none R q)
theorem zcr {l r : Expr} {op : Operator} {pos : Pos} {Q : V -> Loc -> Hp -> Prop} (h : WE F l loc H fun X l1 H1 => WE F r l1 H1 fun Y l2 H2 => Op2 F (binaryOp op) X Y l2 H2 Q) : WE F (.BinOp l op r pos) loc H Q := fun B s R =>
 wpAny_BinOp ((h B s R).then fun a B1 X l1 H1 s1 le1 ra R1 h1 => (h1 B1 s1 R1).then fun b B2 Y l2 H2 s2 le2 rb R2 h2 =>
  (h2 B2 s2 a b R2 (ra.mono le2) rb).lift (le1.trans le2))
theorem zay {l r : Expr} {op : CmpOp} {pos : Pos} {Q : Bool -> Loc -> Hp -> Prop} (h : WE F l loc H fun X l1 H1 => WE F r l1 H1 fun Y l2 H2 => Cmp F op X Y l2 H2 Q) (hm : behindInMarks op r = false := by with_unfolding_all rfl) : WB F (.Compare l [op] [r] pos) loc H Q := fun B s R =>
 wpAny_isTrue_Compare1 ((h B s R).then fun a B1 X l1 H1 s1 le1 ra R1 h1 => (h1 B1 s1 R1).then fun b B2 Y l2 H2 s2 le2 rb R2 h2 =>
  (h2 B2 s2 a b R2 (ra.mono le2) rb).then fun v B3 t l3 H3 s3 le3 e R3 q => by subst e; exact wpAny_truthy_bool ((Post.pure rfl R3 q).lift (le1.trans (le2.trans le3)))) hm
theorem zmt {l r : Expr} {op : CmpOp} {pos : Pos} {Q : V -> Loc -> Hp -> Prop} (h : WE F l loc H fun X l1 H1 => WE F r l1 H1 fun Y l2 H2 => Cmp F op X Y l2 H2 fun b l3 H3 => Q (.bool b) l3 H3) (hm : behindInMarks op r = false := by with_unfolding_all rfl) : WE F (.Compare l [op] [r] pos) loc H Q := fun B s R =>
 wpAny_Compare1 ((h B s R).then fun a B1 X l1 H1 s1 le1 ra R1 h1 => (h1 B1 s1 R1).then fun b B2 Y l2 H2 s2 le2 rb R2 h2 =>
  (h2 B2 s2 a b R2 (ra.mono le2) rb).then fun v B3 t l3 H3 s3 le3 e R3 q => by subst e; exact (Post.pure (.bool t) R3 q).lift (le1.trans (le2.trans le3))) hm
theorem ze4 {e : Expr} {Q : Bool -> Loc -> Hp -> Prop} (h : WE F e loc H fun X l1 H1 => Tru F X l1 H1 Q) (he : isTrue e F.env (eval e F.env) = (do let v ← eval e F.env; standAt e.pos; holding [v] (truthy v)) := by rfl) : WB F e loc H Q := fun B s R =>
 isTrue_plain ((h B s R).then fun a B1 X l1 H1 s1 le1 ra R1 h1 => (h1 B1 s1 a R1 ra).lift le1) he
theorem zq4 {x : Expr} {pos : Pos} {Q : Bool -> Loc -> Hp -> Prop} (h : WB F x loc H fun b l1 H1 => Q (!b) l1 H1) : WB F (.UnaryOp .Not x pos) loc H Q := fun B s R =>
 wpAny_isTrue_Not ((h B s R).then fun a B1 b l1 H1 s1 le1 ra R1 q => by subst ra; exact (Post.pure rfl R1 q).lift le1)
noncomputable def WAll (F : Fx) (op : BoolOp) (es : List Expr) (loc : Loc) (H : Hp) (Q : Bool -> Loc -> Hp -> Prop) : Prop := ∀ B s, FRel F B loc H s -> PW F (allTrue op es F.env) eqR B s Q
theorem ze5 {op : BoolOp} {vs : List Expr} {pos : Pos} {Q : Bool -> Loc -> Hp -> Prop} (h : WAll F op vs loc H Q) : WB F (.BoolOp op vs pos) loc H Q := fun B s R => wpAny_isTrue_BoolOp (h B s R)
theorem zf6 {Q : Bool -> Loc -> Hp -> Prop} (q : Q true loc H) : WAll F .And [] loc H Q := fun B s R => wpAny_allTrue_And_nil (Post.pure rfl R q)
theorem zkr {Q : Bool -> Loc -> Hp -> Prop} (q : Q false loc H) : WAll F .Or [] loc H Q := fun B s R => wpAny_allTrue_Or_nil (Post.pure rfl R q)
theorem zbr {x : Expr} {rest : List Expr} {Q : Bool -> Loc -> Hp -> Prop} (h : WB F x loc H fun b l1 H1 => (b = true -> WAll F .And rest l1 H1 Q) ∧ (b = false -> Q false l1 H1)) : WAll F .And (x :: rest) loc H Q := fun B s R =>
 wpAny_allTrue_And_cons ((h B s R).then fun a B1 b l1 H1 s1 le1 ra R1 q => by
  subst ra
  cases a with
  | true => exact (q.1 rfl B1 s1 R1).lift le1
  | false => exact (Post.pure rfl R1 (q.2 rfl)).lift le1)
theorem zf7 {x : Expr} {rest : List Expr} {Q : Bool -> Loc -> Hp -> Prop} (h : WB F x loc H fun b l1 H1 => (b = true -> Q true l1 H1) ∧ (b = false -> WAll F .Or rest l1 H1 Q)) : WAll F .Or (x :: rest) loc H Q := fun B s R =>
 wpAny_allTrue_Or_cons ((h B s R).then fun a B1 b l1 H1 s1 le1 ra R1 q => by
  subst ra
  cases a with
  | true => exact (Post.pure rfl R1 (q.1 rfl)).lift le1
  | false => exact (q.2 rfl B1 s1 R1).lift le1)
theorem zgj {t b o : Expr} {pos : Pos} {Q : V -> Loc -> Hp -> Prop} (h : WB F t loc H fun c l1 H1 => (c = true -> WE F b l1 H1 Q) ∧ (c = false -> WE F o l1 H1 Q)) : WE F (.IfExp t b o pos) loc H Q := fun B s R =>
 wpAny_IfExp ((h B s R).then fun a B1 b l1 H1 s1 le1 ra R1 q => by
  subst ra
  cases a with
  | true => exact (q.1 rfl B1 s1 R1).lift le1
  | false => exact (q.2 rfl B1 s1 R1).lift le1)
theorem zab {Q : Fl -> Loc -> Hp -> Prop} (q : Q .next loc H) : WSs F [] loc H Q := fun B s R => wpAny_execs_nil (Post.pure .next R q)
theorem zaa {st : Stmt} {rest : List Stmt} {Q : Fl -> Loc -> Hp -> Prop} (h : WS F st loc H fun f l1 H1 => match f with | .next => WSs F rest l1 H1 Q | f => Q f l1 H1) : WSs F (st :: rest) loc H Q := fun B s R =>
 wpAny_execs_cons ((h B s R).then fun a B1 b l1 H1 s1 le1 ra R1 q => by
  cases ra with
  | next => exact PW.lift le1 (q B1 s1 R1)
  | brk => exact (Post.pure .brk R1 q).lift le1
  | cont => exact (Post.pure .cont R1 q).lift le1
  | ret r => exact (Post.pure (.ret r) R1 q).lift le1)
theorem zjf {t : Expr} {b o : List Stmt} {pos : Pos} {Q : Fl -> Loc -> Hp -> Prop} (h : WB F t loc H fun c l1 H1 => (c = true -> WSs F b l1 H1 Q) ∧ (c = false -> WSs F o l1 H1 Q)) : WS F (.If t b o pos) loc H Q := fun B s R =>
 wpAny_If ((h B s R).then fun a B1 b l1 H1 s1 le1 ra R1 q => by
  subst ra
  cases a with
  | true => exact (q.1 rfl B1 s1 R1).lift le1
  | false => exact (q.2 rfl B1 s1 R1).lift le1)
theorem zro {pos : Pos} {Q : Fl -> Loc -> Hp -> Prop} (q : Q .next loc H) : WS F (.Pass pos) loc H Q := fun B s R => wpAny_Pass (Post.pure .next R q)
theorem zid {pos : Pos} {Q : Fl -> Loc -> Hp -> Prop} (q : Q .brk loc H) : WS F (.Break pos) loc H Q := fun B s R => wpAny_Break (Post.pure .brk R q)
theorem zks {pos : Pos} {Q : Fl -> Loc -> Hp -> Prop} (q : Q .cont loc H) : WS F (.Continue pos) loc H Q := fun B s R => wpAny_Continue (Post.pure .cont R q)
theorem zbc {e : Expr} {pos : Pos} {Q : Fl -> Loc -> Hp -> Prop} (h : WE F e loc H fun X l1 H1 => Q (.ret X) l1 H1) : WS F (.Return (some e) pos) loc H Q := fun B s R =>
 wpAny_Return_some ((h B s R).then fun a B1 b l1 H1 s1 le1 ra R1 q => (Post.pure (.ret ra) R1 q).lift le1)
theorem zek {pos : Pos} {Q : Fl -> Loc -> Hp -> Prop} (q : Q (.ret .none) loc H) : WS F (.Return none pos) loc H Q := fun B s R =>
 wpAny_Return_none (Post.pure (.ret .none) R q)
theorem zie (ok : Ok F n) {x : Str} {i : Nat} {X : V} {v : Value} {B : Keep} {s : Shared} {P : Unit -> Shared -> Prop} (hx : look F.nm x = some (i, .local)) (R : FRel F B loc H s) (r : RelV B v X)
  (q : ∀ s', FRel F B (loc.set i (some X)) H s' -> P () s') : wpAny F.M F.A (storeName F.env x v) P F.E s := by
 obtain ⟨h1, h2⟩ := zbw hx
 obtain ⟨m, hm, hl⟩ := R.ns
 refine wpAny_storeName_local h2 hm (fun h' hn hs => q _ ⟨fun a o e => ?_, R.based, fun a => ?_, R.lB, R.lH, ⟨_, hn, hl.set h1 r⟩, R.gens, R.os, R.lim, fun p hp => let ⟨⟨o, x1, y1⟩, x2, x3, x4⟩ := R.sv p hp; ⟨⟨o, (hs.2 p.1 x4).trans x1, y1⟩, x2, x3, x4⟩⟩) (by rw [ok.fn]; rfl)
 ·have hne : a ≠ F.L := fun z => by rw [z, R.lB] at e; cases e
  exact (hs.2 a hne).trans (R.keep a o e)
 ·by_cases hw : H.Own a
  ·exact (R.own a).mono (Le.refl _) (fun o e => (hs.2 a (R.own_ne_L hw)).trans e) fun h => ((R.own a).out h).1
  ·obtain ⟨d1, d2, d3, d4, d5, d6⟩ := zbj hw
   refine ⟨fun h => absurd h hw, ?_, ?_, ?_, ?_, ?_, ?_, fun J => d3, fun ep e => ?_⟩
   ·intro y hy; rw [d1] at hy; cases hy
   ·intro y hy; rw [d2] at hy; cases hy
   ·intro y hy; rw [d3] at hy; cases hy
   ·intro y hy; rw [d4] at hy; cases hy
   ·intro y hy; rw [d5] at hy; cases hy
   ·intro y hy; rw [d6] at hy; cases hy
   ·exact absurd (.inr (.inl ((R.own a).g ep e).1)) hw
theorem znq (ok : Ok F n) {x : Str} {i : Nat} {e : Expr} {p pos : Pos} {Q : Fl -> Loc -> Hp -> Prop} (hx : look F.nm x = some (i, .local)) (h : WE F e loc H fun X l1 H1 => Q .next (l1.set i (some X)) H1)
  (hs : swapsWith e (some (.Name x p)) pos.line F.env = pure false := by rfl) : WS F (.Assign [.Name x p] e pos) loc H Q := fun B s R =>
 wpAny_Assign_Name ((h B s R).then fun a B1 X l1 H1 s1 le1 ra R1 q => zie ok hx R1 ra fun s' R' => (Post.pure .next R' q).lift le1) hs
end
mutual
noncomputable def V.toD : V -> PyData
 | .none => .none
 | .bool b => .bool b
 | .int i => .int i
 | .str s => .str s
 | .tup xs => .tuple (toDs xs)
 | .list xs => .list (toDs xs)
 | .inst _ _ => .none
 | .ref _ => .none
 | .raw _ => .none
noncomputable def toDs : List V -> List PyData
 | [] => []
 | x :: xs => x.toD :: toDs xs
end
theorem zlq : ∀ xs : List V, toDs xs = xs.map V.toD
 | [] => rfl
 | x :: xs => by rw [toDs, zlq xs]; rfl
noncomputable def V.isD : Nat -> V -> Bool
 | _, .none => true
 | _, .int _ => true
 | _, .str _ => true
 | n + 1, .tup xs => xs.all (V.isD n)
 | n + 1, .list xs => xs.all (V.isD n)
 | _, _ => false
section
variable {B : Keep} {h : Heap}
theorem zcs {n : Nat} (ih : ∀ {v : Value} {x : V}, RelV B v x -> x.isD n = true -> ∃ as, Reads h v x.toD as) : ∀ {xs : List V} {vs : List Value}, zad B vs xs -> (∀ x ∈ xs, x.isD n = true) -> ∃ as, ReadsAll h vs (toDs xs) as
 | [], _, r, _ => by obtain rfl := r.eI; exact ⟨_, ReadsAll.nil⟩
 | x :: xs, _, r, hk' => by
  obtain ⟨_, _, rfl, hd, r⟩ := r.cI
  obtain ⟨as, q⟩ := ih hd (hk' _ (.head _))
  obtain ⟨bs, p⟩ := zcs ih r fun d hm => hk' d (.tail _ hm)
  exact ⟨_, ReadsAll.cons q p⟩
theorem zgk (hk : ∀ a o, B a = some o -> h.get? a = some o) : ∀ (n : Nat) {v : Value} {x : V}, RelV B v x -> x.isD n = true -> ∃ as, Reads h v x.toD as := by
 intro n
 induction n with
 | zero =>
  intro v x r hd
  cases r with
  | none => exact ⟨_, Reads.none⟩
  | int i t => exact ⟨_, Reads.int i t⟩
  | str x t _ => exact ⟨_, Reads.str x t⟩
  | _ => simp [V.isD] at hd
 | succ n ih =>
  intro v x r hd
  cases r with
  | none => exact ⟨_, Reads.none⟩
  | int i t => exact ⟨_, Reads.int i t⟩
  | str x t _ => exact ⟨_, Reads.str x t⟩
  | tup hb r =>
   obtain ⟨as, q⟩ := zcs ih r (by simpa [V.isD] using hd)
   exact ⟨_, Reads.tuple (hk _ _ hb) rfl rfl q⟩
  | list hb r =>
   obtain ⟨as, q⟩ := zcs ih r (by simpa [V.isD] using hd)
   exact ⟨_, Reads.list (hk _ _ hb) rfl rfl q⟩
  | _ => simp [V.isD] at hd
theorem zdx (hk : ∀ a o, B a = some o -> h.get? a = some o) (n : Nat) {vs : List Value} {xs : List V} (r : zad B vs xs) (hd : ∀ x ∈ xs, x.isD n = true) : ∃ as, ReadsAll h vs (toDs xs) as :=
 zcs (zgk hk n) r hd
theorem zdj {n : Nat} (ih : ∀ {v : Value} {x : V}, RelV B v x -> x.isD n = true -> x.toD.canLay0 = true ∧ x.toD.depth ≤ n) : ∀ {xs : List V} {vs : List Value}, zad B vs xs -> (∀ x ∈ xs, x.isD n = true) -> PyData.canLayAll0 (toDs xs) = true ∧ PyData.depthAll (toDs xs) ≤ n
 | [], _, r, _ => by simp [toDs, PyData.canLayAll0, PyData.depthAll]
 | x :: xs, _, r, hk' => by
  obtain ⟨_, _, rfl, hd, r⟩ := r.cI
  have h1 := ih hd (hk' _ (.head _))
  have h2 := zdj ih r fun d hm => hk' d (.tail _ hm)
  simp only [toDs, PyData.canLayAll0, PyData.depthAll, h1.1, h2.1, Bool.and_self, true_and]
  have a1 := h1.2
  have a2 := h2.2
  lia
theorem zlr : ∀ (n : Nat) {v : Value} {x : V}, RelV B v x -> x.isD n = true -> x.toD.canLay0 = true ∧ x.toD.depth ≤ n := by
 intro n
 induction n with
 | zero =>
  intro v x r hd
  cases r with
  | none => simp [V.toD, PyData.canLay0, PyData.depth]
  | int i t => simp [V.toD, PyData.canLay0, PyData.depth]
  | str x t k => simp [V.toD, PyData.canLay0, PyData.depth, k]
  | _ => simp [V.isD] at hd
 | succ n ih =>
  intro v x r hd
  cases r with
  | none => simp [V.toD, PyData.canLay0, PyData.depth]
  | int i t => simp [V.toD, PyData.canLay0, PyData.depth]
  | str x t k => simp [V.toD, PyData.canLay0, PyData.depth, k]
  | tup hb r =>
   have q := zdj ih r (by simpa [V.isD] using hd)
   have q2 := q.2
   simp only [V.toD, PyData.canLay0, PyData.depth, q.1, true_and]
   lia
  | list hb r =>
   have q := zdj ih r (by simpa [V.isD] using hd)
   have q2 := q.2
   simp only [V.toD, PyData.canLay0, PyData.depth, q.1, true_and]
   lia
  | _ => simp [V.isD] at hd
theorem zfo (n : Nat) {vs : List Value} {xs : List V} (r : zad B vs xs) (hd : ∀ x ∈ xs, x.isD n = true) : PyData.canLayAll0 (toDs xs) = true ∧ PyData.depthAll (toDs xs) ≤ n :=
 zdj (zlr n) r hd
end
theorem zls {n : Nat} {x : V} (h : x.isD n = true) : x = .none ∨ (∃ i, x = .int i) ∨ (∃ s, x = .str s) ∨ (∃ m xs, n = m + 1 ∧ x = .tup xs ∧ ∀ y ∈ xs, V.isD m y = true) ∨ ∃ m xs, n = m + 1 ∧ x = .list xs ∧ ∀ y ∈ xs, V.isD m y = true := by
 cases x with
 | none => exact .inl rfl
 | int i => exact .inr (.inl ⟨i, rfl⟩)
 | str s => exact .inr (.inr (.inl ⟨s, rfl⟩))
 | tup xs =>
  cases n with
  | zero => rw [V.isD] at h <;> simp_all
  | succ m => exact .inr (.inr (.inr (.inl ⟨m, xs, rfl, rfl, List.all_eq_true.mp h⟩)))
 | list xs =>
  cases n with
  | zero => rw [V.isD] at h <;> simp_all
  | succ m => exact .inr (.inr (.inr (.inr ⟨m, xs, rfl, rfl, List.all_eq_true.mp h⟩)))
 | bool b => rw [V.isD] at h <;> simp_all
 | inst a b => rw [V.isD] at h <;> simp_all
 | ref a => rw [V.isD] at h <;> simp_all
 | raw a => rw [V.isD] at h <;> simp_all
theorem zif : ∀ (n : Nat) (d e : V) (k : Nat), d.isD n = true -> e.isD k = true -> (PyData.eqv d.toD e.toD = true ↔ d = e) := by
 have all : ∀ (n : Nat), (∀ d e k, V.isD n d = true -> V.isD k e = true -> (PyData.eqv d.toD e.toD = true ↔ d = e)) -> ∀ (k : Nat) (ds es : List V), (∀ d ∈ ds, V.isD n d = true) -> (∀ d ∈ es, V.isD k d = true) →
   (PyData.eqvAll (toDs ds) (toDs es) = true ↔ ds = es) := by
  intro n ih k ds
  induction ds with
  | nil => intro es _ _; cases es <;> simp [toDs, PyData.eqvAll]
  | cons d ds hi =>
   intro es h1 h2
   cases es with
   | nil => simp [toDs, PyData.eqvAll]
   | cons e es =>
    have q1 := ih d e k (h1 d (.head _)) (h2 e (.head _))
    have q2 := hi es (fun x hx => h1 x (.tail _ hx)) fun x hx => h2 x (.tail _ hx)
    simp only [toDs, PyData.eqvAll, Bool.and_eq_true, q1, q2, List.cons.injEq]
 intro n
 induction n using Nat.strongRecOn with | ind n ih => ?_
 intro d e k h1 h2
 have i1 := zls h1
 have i2 := zls h2
 clear h1 h2
 rcases i1 with rfl | ⟨i, rfl⟩ | ⟨s, rfl⟩ | ⟨m, xs, rfl, rfl, h1⟩ | ⟨m, xs, rfl, rfl, h1⟩ <;> rcases i2 with rfl | ⟨i', rfl⟩ | ⟨s', rfl⟩ | ⟨m', xs', rfl, rfl, h2⟩ | ⟨m', xs', rfl, rfl, h2⟩
 all_goals first | (clear ih; simp only [V.toD, PyData.eqv, reduceCtorEq, Bool.false_eq_true]; done) | skip
 ·clear ih; simp [V.toD, PyData.eqv]
 ·clear ih; simp [V.toD, PyData.eqv]
 ·simp only [V.toD, PyData.eqv, V.tup.injEq]
  exact all m (ih m (Nat.lt_succ_self _)) m' xs xs' h1 h2
 ·simp only [V.toD, PyData.eqv, V.list.injEq]
  exact all m (ih m (Nat.lt_succ_self _)) m' xs xs' h1 h2
open Classical in
noncomputable def inV (x : V) (xs : List V) : Bool := decide (x ∈ xs)
open Classical in
noncomputable def eqV (x y : V) : Bool := decide (x = y)
theorem zig {x : V} {xs : List V} : inV x xs = true ↔ x ∈ xs := by simp [inV]
theorem zes {x y : V} : eqV x y = true ↔ x = y := by simp [eqV]
theorem znr {x : V} {xs : List V} : inV x xs = false ↔ x ∉ xs := by simp [inV]
theorem zns {k n : Nat} {x : V} {xs : List V} (hx : x.isD k = true) (hxs : ∀ y ∈ xs, y.isD n = true) : (toDs xs).any (fun y => PyData.eqv y x.toD) = inV x xs := by
 rw [zlq, Bool.eq_iff_iff, zig]
 simp only [List.any_eq_true, List.mem_map]
 constructor
 ·rintro ⟨_, ⟨y, hy, rfl⟩, e⟩
  rw [← (zif n y x k (hxs y hy) hx).mp e]; exact hy
 ·exact fun hm => ⟨_, ⟨x, hm, rfl⟩, (zif n x x k (hxs x hm) hx).mpr rfl⟩
section
variable {F : Fx} {n : Nat} {loc : Loc} {H : Hp}
noncomputable def asL (H : Hp) : V -> Option (List V)
 | .list xs => some xs
 | .ref a => H.L a
 | _ => none
theorem zcb {B : Keep} {s : Shared} (R : FRel F B loc H s) {v : Value} {X : V} {xs : List V} (r : RelV B v X) (e : asL H X = some xs) : ∃ a items m, v = .ref a ∧ IsL s.heap a items m ∧ zad B items.toList xs := by
 cases r with
 | list hb r => cases e; exact ⟨_, _, _, rfl, R.keep _ _ hb, r⟩
 | ref a => obtain ⟨i, m, q, z⟩ := (R.own a).l xs e; exact ⟨_, _, _, rfl, q, z⟩
 | _ => cases e
theorem Ok.u (ok : Ok F n) {k : Nat} (hk : k ≤ 40 * n + 200) : F.A.units + k < cLine := by have := ok.units; lia
theorem zq5 (ok : Ok F n) {X Y : V} {xs : List V} {Q : Bool -> Loc -> Hp -> Prop} (e : asL H Y = some xs) (hx : X.isD 20 = true) (hxs : ∀ y ∈ xs, y.isD 20 = true) (q : Q (inV X xs) loc H) : Cmp F .In X Y loc H Q := fun B s a b R ra rb => by
 obtain ⟨l, items, m, rfl, hl, hr⟩ := zcb R rb e
 obtain ⟨as, h1⟩ := zgk R.keep 20 ra hx
 obtain ⟨bs, h2⟩ := zdx R.keep 20 hr hxs
 have l1 := zlr 20 ra hx
 have l2 := zfo 20 hr hxs
 refine SeqAt.in_list_reads (Reads.list hl rfl rfl h2) h1 l2.1 l1.1 ?_ ?_
 ·have := ok.u (k := 30) (by lia)
  have := l1.2; have := l2.2; lia
 ·rw [zns hx hxs]; exact Post.pure rfl R q
theorem zgs (ok : Ok F n) {X Y : V} {xs : List V} {Q : Bool -> Loc -> Hp -> Prop} (e : asL H Y = some xs) (hx : X.isD 20 = true) (hxs : ∀ y ∈ xs, y.isD 20 = true) (q : Q (!inV X xs) loc H) : Cmp F .NotIn X Y loc H Q := fun B s a b R ra rb => by
 obtain ⟨l, items, m, rfl, hl, hr⟩ := zcb R rb e
 obtain ⟨as, h1⟩ := zgk R.keep 20 ra hx
 obtain ⟨bs, h2⟩ := zdx R.keep 20 hr hxs
 have l1 := zlr 20 ra hx
 have l2 := zfo 20 hr hxs
 refine SeqAt.notIn_list_reads (Reads.list hl rfl rfl h2) h1 l2.1 l1.1 ?_ ?_
 ·have := ok.u (k := 30) (by lia)
  have := l1.2; have := l2.2; lia
 ·rw [zns hx hxs]; exact Post.pure rfl R q
noncomputable def asD (H : Hp) : V -> V
 | .ref a => match H.L a with | some xs => .list xs | none => .ref a
 | x => x
theorem ze6 {B : Keep} {s : Shared} (R : FRel F B loc H s) {v : Value} {X : V} {k : Nat} (r : RelV B v X) (hd : (asD H X).isD k = true) : ∃ as, Reads s.heap v (asD H X).toD as ∧ (asD H X).toD.canLay0 = true ∧ (asD H X).toD.depth ≤ k := by
 have gen : ∀ {Y}, RelV B v Y -> Y.isD k = true -> ∃ as, Reads s.heap v Y.toD as ∧ Y.toD.canLay0 = true ∧ Y.toD.depth ≤ k := fun ry hy =>
  let ⟨as, q⟩ := zgk R.keep k ry hy; ⟨as, q, zlr k ry hy⟩
 cases r with
 | ref a =>
  unfold asD at hd ⊢
  cases e : H.L a with
  | none =>
   simp only [e] at hd ⊢
   exact gen (.ref a) hd
  | some xs =>
   simp only [e] at hd ⊢
   obtain ⟨i, m, q, z⟩ := (R.own a).l xs e
   cases k with
   | zero => simp [V.isD] at hd
   | succ k =>
    have hd' : ∀ x ∈ xs, x.isD k = true := by simpa [V.isD] using hd
    obtain ⟨as, q2⟩ := zdx R.keep k z hd'
    have l2 := zfo k z hd'
    refine ⟨_, Reads.list q rfl rfl q2, ?_, ?_⟩
    ·simp [V.toD, PyData.canLay0, l2.1]
    ·have := l2.2
     simp only [V.toD, PyData.depth]; lia
 | none => exact gen .none hd
 | bool b => exact gen (.bool b) hd
 | int i t => exact gen (.int i t) hd
 | str x t z => exact gen (.str x t z) hd
 | tup a b => exact gen (.tup a b) hd
 | list a b => exact gen (.list a b) hd
 | inst a b c d => exact gen (.inst a b c d) hd
 | raw v => exact gen (.raw v) hd
theorem znt (ok : Ok F n) {X Y : V} {Q : Bool -> Loc -> Hp -> Prop} (hx : (asD H X).isD 20 = true) (hy : (asD H Y).isD 20 = true) (q : Q (eqV (asD H X) (asD H Y)) loc H) : Cmp F .Eq X Y loc H Q := fun B s a b R ra rb => by
 obtain ⟨as, h1, c1, d1⟩ := ze6 R ra hx
 obtain ⟨bs, h2, c2, d2⟩ := ze6 R rb hy
 refine SeqAt.compareEq_reads h1 h2 c1 c2 (by have := ok.u (k := 30) (by lia); lia) ?_
 have : PyData.eqv (asD H X).toD (asD H Y).toD = eqV (asD H X) (asD H Y) := by rw [Bool.eq_iff_iff, zes]; exact zif 20 _ _ 20 hx hy
 rw [this]; exact Post.pure rfl R q
theorem zq6 (ok : Ok F n) {X Y : V} {Q : Bool -> Loc -> Hp -> Prop} (hx : (asD H X).isD 20 = true) (hy : (asD H Y).isD 20 = true) (q : Q (!eqV (asD H X) (asD H Y)) loc H) : Cmp F .NotEq X Y loc H Q := fun B s a b R ra rb => by
 obtain ⟨as, h1, c1, d1⟩ := ze6 R ra hx
 obtain ⟨bs, h2, c2, d2⟩ := ze6 R rb hy
 refine SeqAt.compareNe_reads h1 h2 c1 c2 (by have := ok.u (k := 30) (by lia); lia) ?_
 have : PyData.eqv (asD H X).toD (asD H Y).toD = eqV (asD H X) (asD H Y) := by rw [Bool.eq_iff_iff, zes]; exact zif 20 _ _ 20 hx hy
 rw [this]; exact Post.pure rfl R q
theorem zjg {i j : Int} {Q : V -> Loc -> Hp -> Prop} (q : Q (.int (i + j)) loc H) : Op2 F (binaryOp .Add) (.int i) (.int j) loc H Q := fun B s a b R ra rb => by
 obtain ⟨_, rfl⟩ := ra.iI; obtain ⟨_, rfl⟩ := rb.iI; exact PySem.P.add_int (Post.pure (.int _ _) (R.tok _) q)
theorem zrp {i j : Int} {Q : V -> Loc -> Hp -> Prop} (q : Q (.int (i + j)) loc H) : Op2 F (inplaceOp .Add) (.int i) (.int j) loc H Q := fun B s a b R ra rb => by
 obtain ⟨_, rfl⟩ := ra.iI; obtain ⟨_, rfl⟩ := rb.iI; exact PySem.P.iadd_int (Post.pure (.int _ _) (R.tok _) q)
theorem zq7 {i j : Int} {Q : V -> Loc -> Hp -> Prop} (q : Q (.int (i - j)) loc H) : Op2 F (binaryOp .Sub) (.int i) (.int j) loc H Q := fun B s a b R ra rb => by
 obtain ⟨_, rfl⟩ := ra.iI; obtain ⟨_, rfl⟩ := rb.iI; exact PySem.P.sub_int (Post.pure (.int _ _) (R.tok _) q)
theorem zrq {i j : Int} {Q : V -> Loc -> Hp -> Prop} (q : Q (.int (i - j)) loc H) : Op2 F (inplaceOp .Sub) (.int i) (.int j) loc H Q := fun B s a b R ra rb => by
 obtain ⟨_, rfl⟩ := ra.iI; obtain ⟨_, rfl⟩ := rb.iI; exact PySem.P.isub_int (Post.pure (.int _ _) (R.tok _) q)
end
section
variable {F : Fx} {n : Nat} {loc : Loc} {H : Hp}
theorem zel {i j : Int} {Q : V -> Loc -> Hp -> Prop} (hj : 0 < j) (q : Q (.int (i % j)) loc H) : Op2 F (binaryOp .Mod) (.int i) (.int j) loc H Q := fun B s a b R ra rb => by
 obtain ⟨_, rfl⟩ := ra.iI; obtain ⟨_, rfl⟩ := rb.iI
 refine PyProof.Rows.mod_int' (by lia) (Post.pure ?_ (R.tok _) q)
 rw [Int.fmod_eq_emod_of_nonneg _ (by lia)]
 exact .int _ _
theorem zfp {i j : Int} {Q : V -> Loc -> Hp -> Prop} (hj : 0 < j) (hs : j < 1000000000) (q : Q (.int (i / j)) loc H) : Op2 F (binaryOp .FloorDiv) (.int i) (.int j) loc H Q := fun B s a b R ra rb => by
 obtain ⟨_, rfl⟩ := ra.iI; obtain ⟨_, rfl⟩ := rb.iI
 refine PySem.AutoIntOps.floordiv_1 (by simp; lia) (by rw [PyProof.noPylong_small (by lia)]; simp) ?_
 show Post F RelV B Q (.int (i.fdiv j) s.toks) { s with toks := s.toks + 1 }
 rw [Int.fdiv_eq_ediv_of_nonneg _ (by lia)]
 exact Post.pure (.int _ _) (R.tok _) q
theorem zq8 {i j : Int} {Q : Bool -> Loc -> Hp -> Prop} (q : Q (decide (i < j)) loc H) : Cmp F .Lt (.int i) (.int j) loc H Q := fun B s a b R ra rb => by
 obtain ⟨_, rfl⟩ := ra.iI; obtain ⟨_, rfl⟩ := rb.iI; exact PySem.P.lt_int (Post.pure rfl R q)
theorem ztp {i j : Int} {Q : Bool -> Loc -> Hp -> Prop} (q : Q (decide (i ≤ j)) loc H) : Cmp F .LtE (.int i) (.int j) loc H Q := fun B s a b R ra rb => by
 obtain ⟨_, rfl⟩ := ra.iI; obtain ⟨_, rfl⟩ := rb.iI; exact PySem.P.le_int (Post.pure rfl R q)
theorem ztq {i j : Int} {Q : Bool -> Loc -> Hp -> Prop} (q : Q (decide (i > j)) loc H) : Cmp F .Gt (.int i) (.int j) loc H Q := fun B s a b R ra rb => by
 obtain ⟨_, rfl⟩ := ra.iI; obtain ⟨_, rfl⟩ := rb.iI; exact PySem.P.gt_int (Post.pure rfl R q)
theorem ztr {i j : Int} {Q : Bool -> Loc -> Hp -> Prop} (q : Q (decide (i ≥ j)) loc H) : Cmp F .GtE (.int i) (.int j) loc H Q := fun B s a b R ra rb => by
 obtain ⟨_, rfl⟩ := ra.iI; obtain ⟨_, rfl⟩ := rb.iI; exact PySem.P.ge_int (Post.pure rfl R q)
theorem zrr {i j : Int} {Q : Bool -> Loc -> Hp -> Prop} (q : Q (decide (i = j)) loc H) : Cmp F .Eq (.int i) (.int j) loc H Q := fun B s a b R ra rb => by
 obtain ⟨_, rfl⟩ := ra.iI; obtain ⟨_, rfl⟩ := rb.iI; exact PySem.P.eq_int (Post.pure rfl R q)
theorem zrs {x y : Str} {Q : Bool -> Loc -> Hp -> Prop} (q : Q (decide (x = y)) loc H) : Cmp F .Eq (.str x) (.str y) loc H Q := fun B s a b R ra rb => by
 obtain ⟨_, rfl, _⟩ := ra.sI; obtain ⟨_, rfl, _⟩ := rb.sI; exact PyProof.Rows.eq_str (Post.pure rfl R q)
theorem zrt {x y : Str} {Q : Bool -> Loc -> Hp -> Prop} (q : Q (!decide (x = y)) loc H) : Cmp F .NotEq (.str x) (.str y) loc H Q := fun B s a b R ra rb => by
 obtain ⟨_, rfl, _⟩ := ra.sI; obtain ⟨_, rfl, _⟩ := rb.sI; exact PyProof.Rows.ne_str (Post.pure rfl R q)
noncomputable def WEs (F : Fx) (pos : Pos) (es : List Expr) (loc : Loc) (H : Hp) (Q : List V -> Loc -> Hp -> Prop) : Prop := ∀ B s, FRel F B loc H s -> PW F (spliced (backTo pos (starEach es F.env))) zad B s Q
theorem zaf {pos : Pos} {Q : List V -> Loc -> Hp -> Prop} (q : Q [] loc H) : WEs F pos [] loc H Q := fun B s R => spliced_nil (Post.pure .nil R q)
theorem zag {pos : Pos} {e : Expr} {rest : List Expr} {Q : List V -> Loc -> Hp -> Prop} (h : WE F e loc H fun X l1 H1 => WEs F pos rest l1 H1 fun Xs l2 H2 => Q (X :: Xs) l2 H2)
  (he : starEach (e :: rest) F.env = (false, eval e F.env) :: starEach rest F.env := by rfl) : WEs F pos (e :: rest) loc H Q := fun B s R => by
 rw [he]
 exact spliced_cons ((h B s R).then fun a B1 X l1 H1 s1 le1 ra R1 h1 => (h1 B1 s1 R1).then fun b B2 Xs l2 H2 s2 le2 rb R2 q => (Post.pure (.cons (ra.mono le2) rb) R2 q).lift (le1.trans le2))
noncomputable def Hp.Fresh (H : Hp) (a : Addr) : Prop := ¬ H.Own a
theorem zhr {vs : List Value} {xs : List V} {B : Keep} {s : Shared} {P : Value -> Shared -> Prop} (R : FRel F B loc H s) (r : zad B vs xs) (hz : xs.length ≤ 1000000)
  (h : ∀ a s', H.Fresh a -> FRel F B loc (H.aL a xs) s' -> P (.ref a) s') : wpAny F.M F.A (newList vs) P F.E s := by
 refine wpAny_newObj_type (h s.heap.objs.size _ (R.fresh_H (R.fresh (Nat.le_refl _)).1) (R.newL (items := vs.toArray) (n := 0) (Nat.le_refl _) (fun b o e => Heap.get?_push_of_some _ e) (Heap.get?_push_size _ rfl) (by simpa using r) rfl rfl)) ?_
 show vs.toArray.size ≤ sizeLine
 rw [List.size_toArray, r.length, sizeLine_eq]; lia
theorem za9 {es : List Expr} {pos : Pos} {Q : V -> Loc -> Hp -> Prop} (h : WEs F pos es loc H fun Xs l1 H1 => Xs.length ≤ 1000000 ∧ ∀ a, H1.Fresh a -> Q (.ref a) l1 (H1.aL a Xs)) : WE F (.List es pos) loc H Q := fun B s R =>
 PyProof.Rows.List_ ((h B s R).then fun a B1 Xs l1 H1 s1 le1 ra R1 q => zhr R1 ra q.1 fun a s' hf R' => (Post.pure (.ref a) R' (q.2 a hf)).lift le1)
theorem zkt {vs : List Value} {xs : List V} {B : Keep} {s : Shared} {P : Value -> Shared -> Prop} (R : FRel F B loc H s) (r : zad B vs xs) (hz : xs.length ≤ 1000000)
  (h : ∀ v s' B', Le B B' -> RelV B' v (.tup xs) -> FRel F B' loc H s' -> P v s') : wpAny F.M F.A (newTuple vs) P F.E s := by
 have z := R.hold (s' := { s with heap := s.heap.push (zd9 vs.toArray 0) }) (a := s.heap.objs.size) (o := zd9 vs.toArray 0) (Nat.le_refl _) (fun b o e => Heap.get?_push_of_some _ e) (Heap.get?_push_size _ rfl) rfl rfl
 refine wpAny_newObj_type (h _ _ _ z.2.1 (.tup z.2.2 ?_) z.1) ?_
 ·have := r.mono z.2.1
  simpa using this
 ·show vs.toArray.size ≤ sizeLine
  rw [List.size_toArray, r.length, sizeLine_eq]; lia
theorem zih {es : List Expr} {k : Nat} {pos : Pos} {Q : V -> Loc -> Hp -> Prop} (h : WEs F pos es loc H fun Xs l1 H1 => Xs.length ≤ 1000000 ∧ Q (.tup Xs) l1 H1) : WE F (.Tuple es k pos) loc H Q := fun B s R =>
 PyProof.Rows.Tuple_ ((h B s R).then fun a B1 Xs l1 H1 s1 le1 ra R1 q => zkt R1 ra q.1 fun v s' B' le r R' => (Post.pure r R' q.2).lift (le1.trans le))
theorem zlt {b : Bool} {Q : Bool -> Loc -> Hp -> Prop} (q : Q b loc H) : Tru F (.bool b) loc H Q := fun B s a R ra => by
 obtain rfl := ra.bI; exact wpAny_truthy_bool (Post.pure rfl R q)
theorem zpm {Q : Bool -> Loc -> Hp -> Prop} (q : Q false loc H) : Tru F .none loc H Q := fun B s a R ra => by
 obtain rfl := ra.nI; exact PyProof.Rows.truthy_none (Post.pure rfl R q)
theorem zii {X : V} {xs : List V} {Q : Bool -> Loc -> Hp -> Prop} (e : asL H X = some xs) (hz : xs.length ≤ 1000000) (q : Q (!xs.isEmpty) loc H) : Tru F X loc H Q := fun B s a R ra => by
 obtain ⟨l, items, m, rfl, hl, hr⟩ := zcb R ra e
 have hlen := hr.length
 have hi : (!items.isEmpty) = (!xs.isEmpty) := by
  rw [Array.length_toList] at hlen
  cases xs with
  | nil => simp at hlen; simp [hlen]
  | cons x xs =>
   have : items.size ≠ 0 := by rw [hlen]; simp
   simp [Array.isEmpty, this]
 refine wpAny_truthy_list hl.isList ?_ ?_
 ·rw [Array.length_toList] at hlen; rw [hlen]; lia
 ·rw [hi]; exact Post.pure rfl (R.tok _) q
noncomputable def Call (F : Fx) (f : V) (Xs : List V) (loc : Loc) (H : Hp) (Q : V -> Loc -> Hp -> Prop) : Prop :=
 ∀ B s v vs, FRel F B loc H s -> RelV B v f -> zad B vs Xs -> PW F (call v vs) RelV B s Q
theorem zgl {X : V} {xs : List V} {Q : V -> Loc -> Hp -> Prop} (e : asL H X = some xs) (hz : xs.length ≤ 1000000) (q : Q (.int xs.length) loc H) : Call F (.raw (.builtin "len")) [X] loc H Q := fun B s v vs R rv rvs => by
 obtain rfl := rv.wI
 obtain ⟨_, rfl, ra⟩ := rvs.c1
 obtain ⟨l, items, m, rfl, hl, hr⟩ := zcb R ra e
 have hlen := hr.length
 rw [Array.length_toList] at hlen
 refine PySem.Calls.call_len_list hl.isList (by rw [hlen]; lia) ?_
 rw [hlen]; exact Post.pure (.int _ _) (R.tok _) q
theorem zf8 {xs : List V} {Q : V -> Loc -> Hp -> Prop} (hz : xs.length ≤ 1000000) (q : Q (.int xs.length) loc H) : Call F (.raw (.builtin "len")) [.tup xs] loc H Q := fun B s v vs R rv rvs => by
 obtain rfl := rv.wI
 obtain ⟨_, rfl, ra⟩ := rvs.c1
 obtain ⟨_, _, _, rfl, hb, r⟩ := ra.tI
 have hlen := r.length
 rw [Array.length_toList] at hlen
 refine PyProof.Rows.len_tuple ⟨_, R.keep _ _ hb, rfl, _, rfl⟩ (by rw [hlen]; lia) ?_
 rw [hlen]; exact Post.pure (.int _ _) (R.tok _) q
noncomputable def Sub (F : Fx) (X Y : V) (loc : Loc) (H : Hp) (Q : V -> Loc -> Hp -> Prop) : Prop :=
 ∀ B s o i, FRel F B loc H s -> RelV B o X -> RelV B i Y -> SubscriptOn F.M F.A o i (Post F RelV B Q) F.E s
theorem zat {value slice : Expr} {pos : Pos} {Q : V -> Loc -> Hp -> Prop} (h : WE F value loc H fun X l1 H1 => WE F slice l1 H1 fun Y l2 H2 => Sub F X Y l2 H2 Q)
  (hs : ∀ o i, subscripted slice false o i = operate [o, i] (getItem o i) := by intro _ _; with_unfolding_all rfl) : WE F (.Subscript value slice pos) loc H Q := fun B s R => by
 show wpAny F.M F.A (eval (.Subscript value slice pos) F.env) _ _ _
 rw [eval_Subscript]
 refine wpAny_bind ((h B s R).then fun o B1 X l1 H1 s1 le1 ro R1 h1 => wpAny_bind (wpAny_holding ((h1 B1 s1 R1).then fun i B2 Y l2 H2 s2 le2 ri R2 h2 => wpAny_bind (wpAny_standAt ?_))))
 obtain ⟨T, id, hl, hT, hw⟩ := h2 B2 s2 o i R2 (ro.mono le2) ri
 rw [getitemInPython_of_ne hT.not_modules]
 refine wpAny_bind (wpAny_bind (wpAny_specialOf hT hl (wpAny_pure ?_)))
 show wpAny F.M F.A (subscripted slice false o i >>= _) _ _ _
 rw [hs]
 exact wpAny_bind (wpAny_operating (wpAny_mono hw (fun v s' p => wpAny_bind (wpAny_letTemporaryGo (wpAny_pure (p.lift (le1.trans le2))))) fun J J x => x))
theorem zb4 {X : V} {xs : List V} {i : Int} {x : V} {Q : V -> Loc -> Hp -> Prop} (e : asL H X = some xs) (h0 : 0 ≤ i) (hi : i < 1000000) (hx : xs[i.toNat]? = some x) (q : Q x loc H) : Sub F X (.int i) loc H Q := fun B s o j R ro rj => by
 obtain ⟨_, rfl⟩ := rj.iI
 obtain ⟨l, items, m, rfl, hl, hr⟩ := zcb R ro e
 obtain ⟨v, e1, r⟩ := hr.get hx
 exact ⟨"list", _, list_getitem_lookup, hl.isList.typeIs, wpAny_getItem_list hl.isList h0 (by lia) (by simpa using e1) (Post.pure r R q)⟩
theorem zdy {X : V} {xs : List V} {i : Int} {x : V} {Q : V -> Loc -> Hp -> Prop} (e : asL H X = some xs) (h0 : i < 0) (h1 : -(xs.length : Int) ≤ i) (hi : -1000000 < i) (hx : xs[(i + xs.length).toNat]? = some x) (q : Q x loc H) : Sub F X (.int i) loc H Q := fun B s o j R ro rj => by
 obtain ⟨_, rfl⟩ := rj.iI
 obtain ⟨l, items, m, rfl, hl, hr⟩ := zcb R ro e
 obtain ⟨v, e1, r⟩ := hr.get hx
 have hlen := hr.length
 rw [Array.length_toList] at hlen
 exact ⟨"list", _, list_getitem_lookup, hl.isList.typeIs, wpAny_getItem_list_neg hl.isList h0 (by rw [hlen]; exact h1) (by lia) (by rw [hlen]; simpa using e1) (Post.pure r R q)⟩
theorem zku {xs : List V} {i : Int} {x : V} {Q : V -> Loc -> Hp -> Prop} (h0 : 0 ≤ i) (hi : i < 1000000) (hx : xs[i.toNat]? = some x) (q : Q x loc H) : Sub F (.tup xs) (.int i) loc H Q := fun B s o j R ro rj => by
 obtain ⟨_, rfl⟩ := rj.iI
 obtain ⟨_, _, _, rfl, hb, hr⟩ := ro.tI
 obtain ⟨v, e1, r⟩ := hr.get hx
 have ht : IsTup s.heap _ _ := ⟨_, R.keep _ _ hb, rfl, _, rfl⟩
 have hlen : i.toNat < _ := (List.getElem?_eq_some_iff.mp e1).1
 rw [Array.length_toList] at hlen
 exact ⟨"tuple", _, PySem.F.slot_tuple_getitem.lookup, ht.typeIs, PyProof.Rows.getItem_tuple ht (by lia) (by lia) (seqIndex_of h0 (by lia)) (by simpa using e1) (Post.pure r R q)⟩
end
theorem zlu {k : Str -> Option NameKind} : ∀ (bs : List (Str × Value)) (m : Str -> Option Value) (x : Str), (bs.map (·.1)).Nodup -> k x = some .local -> bindL k bs m x = (bs.lookup x).or (m x)
 | [], m, x, _, _ => rfl
 | (y, v) :: r, m, x, hn, hk => by
  rw [List.map_cons, List.nodup_cons] at hn
  unfold bindL
  rw [zlu r _ x hn.2 hk, List.lookup_cons]
  cases e : x == y with
  | true =>
   obtain rfl := eq_of_beq e
   have : r.lookup x = none := by
    rw [List.lookup_eq_none_iff]
    intro p hp
    cases z : x == p.1 with
    | false => simp [bne, z]
    | true => exact absurd (List.mem_map.mpr ⟨p, hp, (eq_of_beq z).symm⟩) hn.1
   rw [this, if_pos hk]; simp
  | false =>
   have hne : x ≠ y := fun h => by rw [h] at e; simp at e
   split <;> simp [hne]
theorem zij {k : Str -> Option NameKind} : ∀ (bs : List (Str × Value)) (m : Str -> Option Value) (x : Str), (bs.map (·.1)).Nodup -> k x ≠ some .local -> bindC k bs m x = (bs.lookup x).or (m x)
 | [], m, x, _, _ => rfl
 | (y, v) :: r, m, x, hn, hk => by
  rw [List.map_cons, List.nodup_cons] at hn
  unfold bindC
  rw [zij r _ x hn.2 hk, List.lookup_cons]
  cases e : x == y with
  | true =>
   obtain rfl := eq_of_beq e
   have : r.lookup x = none := by
    rw [List.lookup_eq_none_iff]
    intro p hp
    cases z : x == p.1 with
    | false => simp [bne, z]
    | true => exact absurd (List.mem_map.mpr ⟨p, hp, (eq_of_beq z).symm⟩) hn.1
   rw [this, if_neg hk]; simp
  | false =>
   have hne : x ≠ y := fun h => by rw [h] at e; simp at e
   split <;> simp [hne]
noncomputable def zbq (nm : List (Str × NameKind)) (bV : List (Str × V)) : Loc := nm.map fun p => if p.2 == .local then bV.lookup p.1 else none
noncomputable def za7 (H : Hp) (bV : List (Str × V)) : List (Str × Addr) -> Hp
 | [] => H
 | (n, c) :: r => ((za7 H bV r).aC c (bV.lookup n))
theorem za6.lookup {B : Keep} {bs : List (Str × Value)} {bV : List (Str × V)} {x : Str} (r : za6 B bs bV) : zc0 B (bs.lookup x) (bV.lookup x) := by
 induction r with
 | nil => trivial
 | cons a _ q =>
  rw [List.lookup_cons, List.lookup_cons]
  cases x == _ with
  | true => exact a
  | false => exact q
theorem ze7 {B : Keep} : ∀ {pn : List Str} {vs : List Value} {xs : List V}, zad B vs xs -> za6 B (pn.zip vs) (pn.zip xs)
 | [], _, _, _ => by simp; exact .nil
 | p :: pn, _, _, .nil => by simp; exact .nil
 | p :: pn, _, _, .cons a r => by simp; exact .cons a (ze7 r)
theorem zts {nm : List (Str × NameKind)} {x : Str} {i : Nat} (h : zep nm x = some i) : ∃ k, nm[i]? = some (x, k) ∧ nm.lookup x = some k := by
 induction nm generalizing i with
 | nil => simp [zep] at h
 | cons p r ih =>
  obtain ⟨y, k⟩ := p
  unfold zep at h
  rw [List.findIdx?_cons] at h
  split at h
  ·rename_i e
   cases h
   obtain rfl := eq_of_beq e
   exact ⟨k, by simp, by simp [List.lookup_cons]⟩
  ·rename_i e
   obtain ⟨j, hj, he⟩ := Option.map_eq_some_iff.mp h
   subst he
   obtain ⟨k', h1, h2⟩ := ih hj
   refine ⟨k', by simpa using h1, ?_⟩
   have e' : (x == y) = false := by
    cases z : x == y with
    | false => rfl
    | true => exact absurd (by rw [eq_of_beq z]; exact beq_self_eq_true y) e
   rw [List.lookup_cons, e']; exact h2
theorem zhs {B : Keep} {nm : List (Str × NameKind)} {bs : List (Str × Value)} {bV : List (Str × V)} (r : za6 B bs bV) (hn : (bs.map (·.1)).Nodup) :
  zdh B nm (zbq nm bV) (bindL (fun x => nm.lookup x) bs fun J => none) := by
 intro x i X hx hl
 obtain ⟨k, h1, h2⟩ := zts hx
 unfold zbq at hl
 rw [List.getElem?_map, h1] at hl
 simp only [Option.map_some, Option.some.injEq] at hl
 split at hl
 ·rename_i hk
  obtain rfl := eq_of_beq hk
  rw [zlu bs _ x hn h2]
  have q := r.lookup (x := x)
  rw [hl] at q
  cases e : bs.lookup x with
  | none => rw [e] at q; exact q.elim
  | some v => rw [e] at q; exact ⟨v, rfl, q⟩
 ·cases hl
noncomputable def za4 (B : Keep) (a : Addr) : Keep := fun b => if b = a then none else B b
theorem zbx {B : Keep} {a b : Addr} (h : b ≠ a) : za4 B a b = B b := by simp [za4, h]
theorem zjh {B : Keep} {a : Addr} {o : Obj} {fl} (hB : B a = some o) (hd : o.data = .fields fl) : ∀ b p, B b = some p -> (∀ fl, p.data ≠ .fields fl) -> za4 B a b = some p := fun b p e hp => by
 rw [zbx]
 ·exact e
 ·rintro rfl; rw [hB] at e; cases e; exact hp _ hd
theorem RelV.drop {B : Keep} {a : Addr} {o : Obj} {fl} (hB : B a = some o) (hd : o.data = .fields fl) {v : Value} {x : V} (r : RelV B v x) : RelV (za4 B a) v x := (Rel3.map (zjh hB hd)).1 v x r
theorem zad.drop' {B : Keep} {a : Addr} {o : Obj} {fl} (hB : B a = some o) (hd : o.data = .fields fl) {v : List Value} {x : List V} (r : zad B v x) : zad (za4 B a) v x := (Rel3.map (zjh hB hd)).2.1 v x r
theorem za6.drop {κ : Type} {B : Keep} {a : Addr} {o : Obj} {fl} (hB : B a = some o) (hd : o.data = .fields fl) {v : List (κ × Value)} {x : List (κ × V)} (r : za6 B v x) : za6 (za4 B a) v x := by
 induction r with
 | nil => exact .nil
 | cons a _ q => exact .cons (a.drop hB hd) q
theorem zc0.drop {B : Keep} {a : Addr} {o : Obj} {fl} (hB : B a = some o) (hd : o.data = .fields fl) {v x} (r : zc0 B v x) : zc0 (za4 B a) v x := by
 cases v <;> cases x <;> first | exact trivial | exact r.elim | exact RelV.drop hB hd r
theorem zdh.drop {B : Keep} {a : Addr} {o : Obj} {fl} (hB : B a = some o) (hd : o.data = .fields fl) {nm loc m} (x : zdh B nm loc m) : zdh (za4 B a) nm loc m :=
 fun y i X p q => let ⟨v, e, r⟩ := x y i X p q; ⟨v, e, r.drop hB hd⟩
noncomputable abbrev Base.sv (c : Base) (l : List (Addr × Obj)) : Base := { c with saved := l }
theorem zas.sv {c : Base} {B : Keep} {h : Heap} {H : Hp} {a : Addr} {l : List (Addr × Obj)} (x : zas c B h H a) : zas (c.sv l) B h H a := ⟨x.out, x.l, x.d, x.p, x.s, x.i, x.c, x.dp, x.g⟩
theorem zas.unsv {c : Base} {B : Keep} {h : Heap} {H : Hp} {a : Addr} {l : List (Addr × Obj)} (x : zas (c.sv l) B h H a) : zas c B h H a := ⟨x.out, x.l, x.d, x.p, x.s, x.i, x.c, x.dp, x.g⟩
section
variable {c : Base} {L L' : Addr} {nm nm' : List (Str × NameKind)} {B : Keep} {loc loc' : Loc} {H : Hp} {s : Shared}
theorem zas.drop {h : Heap} {a b : Addr} {o : Obj} {fl} (hB : B a = some o) (hd : o.data = .fields fl) (x : zas c B h H b) : zas c (za4 B a) h H b where
 out := fun q => ⟨by unfold za4; split; rfl; exact (x.out q).1, (x.out q).2⟩
 l := fun xs e => (x.l xs e).imp fun J => Exists.imp fun J h => ⟨h.1, h.2.drop' hB hd⟩
 d := fun kvs e => (x.d kvs e).imp id (Exists.imp fun J h => ⟨h.1, h.2.drop hB hd⟩)
 p := fun ks e => (x.p ks e).imp fun J => Exists.imp fun J => Exists.imp fun J => Exists.imp fun J h => ⟨h.1, h.2.1, h.2.2.1, h.2.2.2.1, h.2.2.2.2.1, h.2.2.2.2.2.1, fun y hy => (h.2.2.2.2.2.2 y hy).drop hB hd⟩
 s := x.s
 i := x.i
 c := fun ov e => (x.c ov e).imp fun J => Exists.imp fun J h => ⟨h.1, h.2.1, h.2.2.drop hB hd⟩
 dp := x.dp
 g := x.g
theorem Rel.dropIt (R : Rel c L nm B loc H s) {a : Addr} {o : Obj} {fl} (hB : B a = some o) (hd : o.data = .fields fl) (hb : c.lo a = none) {s' : Shared} (hk : ∀ b o, b ≠ a -> s.heap.get? b = some o -> s'.heap.get? b = some o)
  (hg : s'.gens = s.gens) (ho : s'.os = s.os) : Rel c L nm (za4 B a) loc H s' where
 keep := fun b p e => by
  unfold za4 at e; split at e; cases e
  rename_i hne
  exact hk _ _ hne (R.keep _ _ e)
 based := ⟨R.based.1, fun b p e => by
  rw [zbx]; exact R.based.2 _ _ e
  rintro rfl; rw [hb] at e; cases e⟩
 own := fun b => by
  by_cases hw : H.Own b
  ·have hne : b ≠ a := by rintro rfl; rw [((R.own b).out hw).1] at hB; cases hB
   exact ((R.own b).drop hB hd).mono (Le.refl _) (fun p => hk b p hne) fun h => (((R.own b).drop hB hd).out h).1
  ·obtain ⟨d1, d2, d3, d4, d5, d6⟩ := zbj hw
   refine ⟨fun h => absurd h hw, ?_, ?_, ?_, ?_, ?_, ?_, fun J => d3, fun ep e => ?_⟩
   ·intro y hy; rw [d1] at hy; cases hy
   ·intro y hy; rw [d2] at hy; cases hy
   ·intro y hy; rw [d3] at hy; cases hy
   ·intro y hy; rw [d4] at hy; cases hy
   ·intro y hy; rw [d5] at hy; cases hy
   ·intro y hy; rw [d6] at hy; cases hy
   ·exact absurd (.inr (.inl ((R.own b).g ep e).1)) hw
 lB := by unfold za4; split; rfl; exact R.lB
 lH := R.lH
 ns := by
  obtain ⟨m, ⟨oL, es, ep, q, z⟩, l⟩ := R.ns
  refine ⟨m, ⟨oL, es, ep, hk _ _ ?_ q, z⟩, l.drop hB hd⟩
  rintro rfl; rw [R.lB] at hB; cases hB
 gens := hg.trans R.gens
 os := ho.trans R.os
 lim := R.lim
 sv := fun p hp => by
  obtain ⟨⟨ob, x1, y1⟩, x2, x3, x4⟩ := R.sv p hp
  refine ⟨⟨ob, hk _ _ (by rintro rfl; rw [x2] at hB; cases hB) x1, y1⟩, ?_, x3, x4⟩
  unfold za4; split; rfl; exact x2
theorem Rel.back {m : Str -> Option Value} {oL : Obj} (R : Rel (c.sv ((L, oL) :: c.saved)) L' nm' B loc' H s) (hs : ∀ p ∈ c.saved, p.1 ≠ L)
  (hn : s.heap.Ns L m) (hl : zdh B nm loc m) : Rel c L nm B loc H s where
 keep := R.keep
 based := R.based
 own := fun a => (R.own a).unsv
 lB := (R.sv _ (.head _)).2.1
 lH := (R.sv _ (.head _)).2.2.1
 ns := ⟨m, hn, hl⟩
 gens := R.gens
 os := R.os
 lim := R.lim
 sv := fun p hp => let ⟨x1, x2, x3, _⟩ := R.sv p (.tail _ hp); ⟨x1, x2, x3, hs p hp⟩
theorem Rel.into {s' : Shared} {m' : Str -> Option Value} {oL : Obj} (R : Rel c L nm B loc H s) (hL : s.heap.get? L = some oL) (hk : ∀ b o, s.heap.get? b = some o -> s'.heap.get? b = some o) (hf : s.heap.objs.size ≤ L')
  (hn : s'.heap.Ns L' m') (hl : zdh B nm' loc' m') (hg : s'.gens = s.gens) (ho : s'.os = s.os) : Rel (c.sv ((L, oL) :: c.saved)) L' nm' B loc' H s' where
 keep := fun a o e => hk _ _ (R.keep _ _ e)
 based := R.based
 own := fun a => ((R.own a).mono (Le.refl _) (hk a) fun h => ((R.own a).out h).1).sv
 lB := R.fresh_B (R.fresh hf).1
 lH := R.fresh_H (R.fresh hf).1
 ns := ⟨m', hn, hl⟩
 gens := hg.trans R.gens
 os := ho.trans R.os
 lim := R.lim
 sv := fun p hp => by
  cases hp with
  | head _ => exact ⟨⟨_, hk _ _ hL, .inl ⟨rfl, fun J => rfl⟩⟩, R.lB, R.lH, fun e => (R.fresh_L (R.fresh hf).1) e.symm⟩
  | tail _ hp =>
   obtain ⟨⟨ob, x1, y1⟩, x2, x3, x4⟩ := R.sv p hp
   exact ⟨⟨ob, hk _ _ x1, y1⟩, x2, x3, by intro e; rw [e, (R.fresh hf).1] at x1; cases x1⟩
theorem Rel.adoptC (R : Rel c L nm B loc H s) {a : Addr} {ov : Option V} {v : Option Value} (hB : B a = none) (hO : ¬ H.Own a) (hL : a ≠ L) (hS : ∀ p ∈ c.saved, p.1 ≠ a) (hlim : c.lim < a) (hc : s.heap.IsCell a v) (r : zc0 B v ov) :
  Rel c L nm B loc (H.aC a ov) s := by
 obtain ⟨o, ho, hd⟩ := hc
 have d := zbj hO
 exact R.chg hB hL hS (fun b o J e => e) (fun b hb => ⟨rfl, rfl, rfl, rfl, rfl, zcd _ _ _ hb, rfl⟩) (.ofC ⟨hB, hlim⟩ ⟨d.1, d.2.1, d.2.2.1, d.2.2.2.1, d.2.2.2.2.1, (R.own a).noG d.2.1⟩ ho hd r) rfl rfl
theorem zf9 {bV : List (Str × V)} : ∀ {cs : List (Str × Addr)} {a : Addr}, (za7 H bV cs).Own a -> H.Own a ∨ ∃ n, (n, a) ∈ cs
 | [], a, h => .inl h
 | (n, c) :: r, a, h => by
  by_cases e : a = c
  ·subst e; exact .inr ⟨n, .head _⟩
  ·have : (za7 H bV r).Own a := Hp.SameAt.own (H' := (za7 H bV r).aC c (bV.lookup n)) ⟨rfl, rfl, rfl, rfl, rfl, zcd _ _ _ e, rfl⟩ h
   rcases zf9 this with h | ⟨m, h⟩
   ·exact .inl h
   ·exact .inr ⟨m, .tail _ h⟩
theorem Rel.adopts {bV : List (Str × V)} {cm : Str -> Option Value} (R : Rel c L nm B loc H s) : ∀ {cs : List (Str × Addr)}, (∀ n a, (n, a) ∈ cs -> B a = none ∧ ¬ H.Own a ∧ a ≠ L ∧ (∀ p ∈ c.saved, p.1 ≠ a) ∧ c.lim < a ∧ s.heap.IsCell a (cm n) ∧ zc0 B (cm n) (bV.lookup n)) →
  cs.Pairwise (fun x y => x.2 ≠ y.2) -> Rel c L nm B loc (za7 H bV cs) s
 | [], _, _ => R
 | (n, a) :: r, h, hp => by
  rw [List.pairwise_cons] at hp
  obtain ⟨h1, h2, h3, hS, h4, h5, h6⟩ := h n a (.head _)
  refine Rel.adoptC (R.adopts (fun m b hm => h m b (.tail _ hm)) hp.2) h1 (fun q => ?_) h3 hS h4 h5 h6
  rcases zf9 q with q | ⟨m, q⟩
  ·exact h2 q
  ·exact hp.1 _ q rfl
end
section
variable {F : Fx} {n : Nat} {loc : Loc} {H : Hp}
noncomputable def retV : Fl -> V
 | .ret x => x
 | _ => .none
structure Fn (b : Heap) (f : Addr) (fd : FuncData) (body : List Stmt) : Prop where
 at_ : ∃ o, b.get? f = some o ∧ o.data = .func fd
 nolim : b.NoLimit
 code : b.CodeRec fd.code fd.qualname
 body : fd.body = .stmts body
 clo : fd.closure = []
 nd : (fd.scope.names.map (·.1)).Nodup
 glob : fd.globals = mainGlobals
 bi : fd.builtins = builtinsNs
 kind : fd.scope.kind = .function
 co : fd.scope.isCoroutine = false
 gen : fd.scope.isGenerator = false
 dbg : fd.scope.names.lookup ("__debug__" : Str) = none
theorem zdk : ∀ {names : List (Str × NameKind)} {k : Nat} {acc : List (Str × Addr)} {x : Str}, ((x, NameKind.cell) ∈ names ∨ ∃ a, (x, a) ∈ acc) -> ((cellsFrom k names acc).lookup x).isSome = true
 | [], k, acc, x, h => by
  rcases h with h | ⟨a, h⟩
  ·cases h
  ·unfold cellsFrom
   cases e : acc.lookup x with
   | some _ => rfl
   | none =>
    rw [List.lookup_eq_none_iff] at e
    have := e _ h
    simp at this
 | (y, kd) :: r, k, acc, x, h => by
  unfold cellsFrom
  split
  ·refine zdk ?_
   rcases h with h | ⟨a, h⟩
   ·cases h with
    | head _ => exact .inr ⟨k, .head _⟩
    | tail _ h => exact .inl h
   ·exact .inr ⟨a, .tail _ h⟩
  ·rename_i hk
   refine zdk ?_
   rcases h with h | ⟨a, h⟩
   ·cases h with
    | head _ => exact absurd rfl hk
    | tail _ h => exact .inl h
   ·exact .inr ⟨a, h⟩
theorem zmu {nm : List (Str × NameKind)} {x : Str} {k : NameKind} (h : nm.lookup x = some k) : (x, k) ∈ nm := by
 induction nm with
 | nil => cases h
 | cons p r ih =>
  obtain ⟨y, k'⟩ := p
  rw [List.lookup_cons] at h
  cases e : x == y with
  | true => rw [e] at h; cases h; obtain rfl := eq_of_beq e; exact .head _
  | false => rw [e] at h; exact .tail _ (ih h)
theorem zbi : ∀ (names : List (Str × NameKind)) (k : Nat) (acc : List (Str × Addr)), (cellsFrom k names acc).map (·.1) = ((names.filter (·.2 == .cell)).map (·.1)).reverse ++ acc.map (·.1)
 | [], k, acc => rfl
 | (y, kd) :: r, k, acc => by
  unfold cellsFrom
  split
  ·rename_i h
   rw [zbi r, List.filter_cons]
   simp [h]
  ·rename_i h
   rw [zbi r, List.filter_cons]
   simp [h]
theorem zb5 {α : Type} : ∀ {l : List (Str × α)} {n : Str} {a : α}, (l.map (·.1)).Nodup -> (n, a) ∈ l -> l.lookup n = some a
 | (m, b) :: r, n, a, hn, h => by
  rw [List.map_cons, List.nodup_cons] at hn
  rw [List.lookup_cons]
  cases h with
  | head _ => simp
  | tail _ h =>
   have : (n == m) = false := by
    cases e : n == m with
    | false => rfl
    | true => exact absurd (List.mem_map.mpr ⟨_, h, eq_of_beq e⟩) hn.1
   rw [this]; exact zb5 hn.2 h
theorem zdz {prog : Program} {w : World} {A : Around} {s : Shared} {R : Result -> Shared -> Prop} {a : Addr} {o : Obj} {fd : FuncData} {body : List Stmt} {args : Args} {binds : List (Str × Value)}
  (hroom : A.depth < recursionLimit) (ho : s.heap.get? a = some o) (hdata : o.data = .func fd) (hlim : s.heap.NoLimit) (hcd : s.heap.CodeRec fd.code fd.qualname)
  (hbody : fd.body = .stmts body) (hbind : Looks (model prog w) s.heap (bindArgs fd args) binds) (hclo : fd.closure = [])
  (hkind : ∀ x ∈ binds, fd.scope.names.lookup x.1 = some .local ∨ (fd.scope.names.lookup x.1 = some .cell ∧ ((cellsFrom (s.heap.objs.size + 1) fd.scope.names []).lookup x.1).isSome = true))
  (h : ∀ s₁, InCallC s (callEnvC fd s.heap.objs.size a).locals (bindL (callEnvC fd s.heap.objs.size a).kindOf binds fun J => none) (callEnvC fd s.heap.objs.size a).cells
    (bindC (callEnvC fd s.heap.objs.size a).kindOf binds fun J => none) s₁ →
   wpAny (model prog w) (A.deeper (callEnvC fd s.heap.objs.size a)) (execs body (callEnvC fd s.heap.objs.size a)) (fun f s' => R (.ok (.ret (match f with | .ret v => v | _ => .none))) s')
    (fun e s' => wpAny (model prog w) (A.deeper (callEnvC fd s.heap.objs.size a)) (leaving (callEnvC fd s.heap.objs.size a) e) (fun J s'' => R (.error e) s'') (fun e' s'' => R (.error e') s'') s') s₁)
  (hco : fd.scope.isCoroutine = false) (hgen : fd.scope.isGenerator = false) (hk : fd.scope.kind = .function) :
  codeAny (model prog w) A (.call (.ref a) args) R s := by
 refine codeAny_call_function hroom ho hdata hco hgen hbody hcd ?_
 rw [hclo]
 refine hbind.here (wpAny_newFunctionEnv_cells hk hkind fun env he s' x => ?_)
 subst he
 exact ⟨hlim.keeps x.toInCall.keep, codeAny_func (h s' x)⟩
noncomputable abbrev Fx.callE (F : Fx) (R : Result -> Shared -> Prop) (env : Env) : Value -> Shared -> Prop := fun e s' => wpAny F.M (F.A.deeper env) (leaving env e) (fun J s'' => R (.error e) s'') (fun e' s'' => R (.error e') s'') s'
noncomputable abbrev Fx.svd (F : Fx) (l : List (Addr × Obj)) : Fx := { F with c := F.c.sv l }
noncomputable def WSsx (F : Fx) (sv' : List (Addr × Obj)) (st : List Stmt) (loc : Loc) (H : Hp) (Q : Fl -> Loc -> Hp -> Prop) : Prop := ∀ B s, FRel F B loc H s -> wpAny F.M F.A (execs st F.env) (Post (F.svd sv') RelF B Q) F.E s
noncomputable abbrev Fx.into (F : Fx) (RR : Result -> Shared -> Prop) (fd : FuncData) (f : Addr) (oL : Obj) (L : Addr) : Fx := ⟨F.c.sv ((F.L, oL) :: F.c.saved), F.A.deeper (callEnvC fd L f), callEnvC fd L f, F.callE RR (callEnvC fd L f)⟩
theorem znu (ok : Ok F (n + 1)) {f : Addr} {fd : FuncData} {body : List Stmt} {kws : List Str} {Xs Ws : List V} {bV : List (Str × V)} {RR : Result -> Shared -> Prop} (W : Fn F.c.base f fd body) {sv' : List (Addr × Obj)} (hsv : ∀ p ∈ sv', ∃ q ∈ F.c.saved, q.1 = p.1)
  (hbind : ∀ (vs ws : List Value) (B : Keep), zad B vs Xs -> zad B ws Ws -> Le (fun a => F.c.base.get? a) B -> ∃ bs, Looks F.M F.c.base (bindArgs fd ⟨vs, kws.zip ws⟩) bs ∧ za6 B bs bV)
  (hnd : (bV.map (·.1)).Nodup) (hloc : ∀ x ∈ bV.map (·.1), fd.scope.names.lookup x = some .local ∨ fd.scope.names.lookup x = some .cell)
  {B : Keep} {s : Shared} {vs ws : List Value} (R : FRel F B loc H s) (rvs : zad B vs Xs) (rws : zad B ws Ws)
  (h : ∀ oL L s₁, Ok (F.into RR fd f oL L) n -> Top (F.into RR fd f oL L) -> (∀ x c, (x, c) ∈ cellsFrom (L + 1) fd.scope.names [] -> H.Fresh c) -> FRel (F.into RR fd f oL L) B (zbq fd.scope.names bV) (za7 H bV (cellsFrom (L + 1) fd.scope.names [])) s₁ →
   (∀ B2 l2 H2 s2, Le B B2 -> FRel ((F.into RR fd f oL L).svd ((F.L, oL) :: sv')) B2 l2 H2 s2 -> FRel (F.svd sv') B2 loc H2 s2) →
   wpAny F.M (F.A.deeper (callEnvC fd L f)) (execs body (callEnvC fd L f)) (fun fl s' => ∀ v, (∀ B2 b, RelF B2 fl b -> RelV B2 v (retV b)) -> RR (.ok (.ret v)) s') (F.callE RR (callEnvC fd L f)) s₁) :
  codeAny F.M F.A (.call (.ref f) ⟨vs, kws.zip ws⟩) RR s := by
 obtain ⟨o, ho, hd⟩ := W.at_
 obtain ⟨mL, ⟨oL, esL, epL, hL, hdL, hkL⟩, hlL⟩ := R.ns
 obtain ⟨bs, hb, hks⟩ := hbind vs ws B rvs rws (znn R)
 have hkey := hks.keys
 refine zdz (by have := ok.depth; lia) (R.inBase ho) hd (W.nolim.keeps fun b o e => R.inBase e) (W.code.keeps fun b o e => R.inBase e) W.body (hb.keeps fun b o e => R.inBase e) W.clo ?_ (fun s₁ X => ?_) W.co W.gen W.kind
 ·intro x hx
  have hm : x.1 ∈ bV.map (·.1) := by rw [← hkey]; exact List.mem_map.mpr ⟨_, hx, rfl⟩
  rcases hloc _ hm with h1 | h1
  ·exact .inl h1
  ·exact .inr ⟨h1, zdk (.inl (zmu h1))⟩
 ·obtain ⟨⟨hh, tk, rfl⟩, hns, hkeep, hfr⟩ := X.toInCall
  have hnd' : (bs.map (·.1)).Nodup := by rw [hkey]; exact hnd
  have ok' : Ok (F.into RR fd f oL s.heap.objs.size) n := by
   refine ⟨W.kind, W.glob, W.bi, W.dbg, ?_, ?_, fun J => ok.handled (by lia), ?_⟩
   ·have := ok.units
    show F.A.units + 3 + 40 * n + 200 < cLine
    lia
   ·have := ok.depth
    show F.A.depth + 1 + 4 * n + 4 < recursionLimit
    lia
   ·obtain ⟨fl, h1, h2⟩ := ok.fr
    refine ⟨callEnvC fd s.heap.objs.size f :: fl, by show F.A.frames.map _ = _; rw [h1]; rfl, fun e he => ?_⟩
    cases he with
    | head _ => exact ⟨(by show fd.scope.kind ≠ .module; rw [W.kind]; intro h; cases h), .inl rfl⟩
    | tail _ he =>
     obtain ⟨g1, g2⟩ := h2 e he
     refine ⟨g1, .inr ?_⟩
     rcases g2 with g2 | ⟨p, hp, g2⟩
     ·exact ⟨_, .head _, g2, esL, epL, hdL⟩
     ·exact ⟨p, .tail _ hp, g2⟩
  have top' : Top (F.into RR fd f oL s.heap.objs.size) := by
   obtain ⟨fl, h1, h2⟩ := ok.fr
   exact ⟨fl, by show F.A.frames.map _ = _; rw [h1]; rfl, rfl⟩
  have R1 : Rel (F.c.sv ((F.L, oL) :: F.c.saved)) s.heap.objs.size fd.scope.names B (zbq fd.scope.names bV) H ⟨hh, s.gens, s.drawn, tk, s.os⟩ :=
   R.into (s' := ⟨hh, s.gens, s.drawn, tk, s.os⟩) hL hkeep (Nat.le_refl _) hns (zhs hks hnd') rfl rfl
  have fr : ∀ n a, (n, a) ∈ cellsFrom (s.heap.objs.size + 1) fd.scope.names [] -> s.heap.objs.size < a := fun n a hm => X.above n a hm
  have R2 := R1.adopts (bV := bV) (cm := bindC (fun x => fd.scope.names.lookup x) (bs) fun J => none) (cs := cellsFrom (s.heap.objs.size + 1) fd.scope.names []) (fun n a hm => by
   have ha := fr n a hm
   have hfa := R.fresh (Nat.le_of_lt ha)
   refine ⟨R.fresh_B hfa.1, R.fresh_H hfa.1, Nat.ne_of_gt ha, ?_, hfa.2, ?_, ?_⟩
   ·intro p hp e
    cases hp with
    | head _ => exact R.fresh_L hfa.1 e.symm
    | tail _ hp => obtain ⟨ob, h1, _⟩ := (R.sv p hp).1; rw [e, hfa.1] at h1; cases h1
   ·have hk := zbi fd.scope.names (s.heap.objs.size + 1) []
    have hnd2 : ((cellsFrom (s.heap.objs.size + 1) fd.scope.names []).map (·.1)).Nodup := by
     rw [hk]
     simp only [List.map_nil, List.append_nil]
     exact (List.reverse_perm _).nodup_iff.mpr ((List.Sublist.map _ List.filter_sublist).nodup W.nd)
    exact X.cell n a (zb5 hnd2 hm)
   ·have hk := zbi fd.scope.names (s.heap.objs.size + 1) []
    have hm2 : n ∈ (cellsFrom (s.heap.objs.size + 1) fd.scope.names []).map (·.1) := List.mem_map.mpr ⟨_, hm, rfl⟩
    rw [hk] at hm2
    simp only [List.map_nil, List.append_nil, List.mem_reverse, List.mem_map, List.mem_filter] at hm2
    obtain ⟨⟨n', kd⟩, ⟨hm3, hm4⟩, rfl⟩ := hm2
    have hm5 : kd = NameKind.cell := eq_of_beq hm4
    subst hm5
    have hlk := zb5 W.nd hm3
    rw [zij _ _ _ hnd' (by rw [hlk]; simp)]
    simp only [Option.or_none]
    exact hks.lookup) X.apart
  refine wpAny_mono (h _ _ _ ok' top' (fun x c hm => R.fresh_H (R.fresh (Nat.le_of_lt (fr x c hm))).1) R2 fun B2 l2 H2 s2 le2 R3 => ?_) (fun fl s' p => ?_) fun J J x => x
  ·obtain ⟨oL', hL', hd'⟩ := (R3.sv _ (.head _)).1
   exact Rel.back (c := F.c.sv sv') R3 (fun p hp => by
    obtain ⟨q, hq, e⟩ := hsv p hp
    rw [← e]; exact (R.sv q hq).2.2.2) ⟨oL', esL, epL, hL', (hd'.dict hdL).trans hdL, hkL⟩ (hlL.mono le2)
  ·refine p _ fun B2 b rf => ?_
   cases rf with
   | next => exact .none
   | brk => exact .none
   | cont => exact .none
   | ret r => exact r
theorem zji (ok : Ok F (n + 1)) {f : Addr} {fd : FuncData} {body : List Stmt} {kws : List Str} {Xs Ws : List V} {bV : List (Str × V)} {Q : V -> Loc -> Hp -> Prop} {RR : Result -> Shared -> Prop} (W : Fn F.c.base f fd body) {sv' : List (Addr × Obj)} (hsv : ∀ p ∈ sv', ∃ q ∈ F.c.saved, q.1 = p.1)
  (hbind : ∀ (vs ws : List Value) (B : Keep), zad B vs Xs -> zad B ws Ws -> Le (fun a => F.c.base.get? a) B -> ∃ bs, Looks F.M F.c.base (bindArgs fd ⟨vs, kws.zip ws⟩) bs ∧ za6 B bs bV)
  (hnd : (bV.map (·.1)).Nodup) (hloc : ∀ x ∈ bV.map (·.1), fd.scope.names.lookup x = some .local ∨ fd.scope.names.lookup x = some .cell)
  (h : ∀ oL L, Ok ⟨F.c.sv ((F.L, oL) :: F.c.saved), F.A.deeper (callEnvC fd L f), callEnvC fd L f, F.callE RR (callEnvC fd L f)⟩ n -> Top ⟨F.c.sv ((F.L, oL) :: F.c.saved), F.A.deeper (callEnvC fd L f), callEnvC fd L f, F.callE RR (callEnvC fd L f)⟩ -> (∀ x c, (x, c) ∈ cellsFrom (L + 1) fd.scope.names [] -> H.Fresh c) →
   WSsx ⟨F.c.sv ((F.L, oL) :: F.c.saved), F.A.deeper (callEnvC fd L f), callEnvC fd L f, F.callE RR (callEnvC fd L f)⟩ ((F.L, oL) :: sv') body (zbq fd.scope.names bV) (za7 H bV (cellsFrom (L + 1) fd.scope.names [])) fun fl J H' => Q (retV fl) loc H')
  {B : Keep} {s : Shared} {vs ws : List Value} (R : FRel F B loc H s) (rvs : zad B vs Xs) (rws : zad B ws Ws) (hR : ∀ v s', Post (F.svd sv') RelV B Q v s' -> RR (.ok (.ret v)) s') :
  codeAny F.M F.A (.call (.ref f) ⟨vs, kws.zip ws⟩) RR s := by
 refine znu ok W hsv hbind hnd hloc R rvs rws fun oL L s₁ ok' tp' hf R1 bk => ?_
 refine wpAny_mono (h oL L ok' tp' hf _ _ R1) (fun fl s' p v hv => ?_) fun J J x => x
 obtain ⟨B2, b, l2, H2, le2, rf, R3, q⟩ := p
 exact hR _ _ ⟨B2, retV b, loc, H2, le2, hv _ _ rf, bk _ _ _ _ le2 R3, q⟩
theorem zpn (ok : Ok F (n + 1)) {f : Addr} {fd : FuncData} {body : List Stmt} {kws : List Str} {Xs Ws : List V} {bV : List (Str × V)} {Q : V -> Loc -> Hp -> Prop} {RR : Result -> Shared -> Prop} (W : Fn F.c.base f fd body)
  (hbind : ∀ (vs ws : List Value) (B : Keep), zad B vs Xs -> zad B ws Ws -> Le (fun a => F.c.base.get? a) B -> ∃ bs, Looks F.M F.c.base (bindArgs fd ⟨vs, kws.zip ws⟩) bs ∧ za6 B bs bV)
  (hnd : (bV.map (·.1)).Nodup) (hloc : ∀ x ∈ bV.map (·.1), fd.scope.names.lookup x = some .local ∨ fd.scope.names.lookup x = some .cell)
  (h : ∀ sv L, Ok ⟨F.c.sv sv, F.A.deeper (callEnvC fd L f), callEnvC fd L f, F.callE RR (callEnvC fd L f)⟩ n -> Top ⟨F.c.sv sv, F.A.deeper (callEnvC fd L f), callEnvC fd L f, F.callE RR (callEnvC fd L f)⟩ -> (∀ x c, (x, c) ∈ cellsFrom (L + 1) fd.scope.names [] -> H.Fresh c) →
   WSs ⟨F.c.sv sv, F.A.deeper (callEnvC fd L f), callEnvC fd L f, F.callE RR (callEnvC fd L f)⟩ body (zbq fd.scope.names bV) (za7 H bV (cellsFrom (L + 1) fd.scope.names [])) fun fl J H' => Q (retV fl) loc H')
  {B : Keep} {s : Shared} {vs ws : List Value} (R : FRel F B loc H s) (rvs : zad B vs Xs) (rws : zad B ws Ws) (hR : ∀ v s', Post F RelV B Q v s' -> RR (.ok (.ret v)) s') :
  codeAny F.M F.A (.call (.ref f) ⟨vs, kws.zip ws⟩) RR s :=
 zji ok W (sv' := F.c.saved) (fun p hp => ⟨p, hp, rfl⟩) hbind hnd hloc (fun oL L ok' tp hf => h _ L ok' tp hf) R rvs rws hR
noncomputable abbrev Fx.plainR (F : Fx) (Q : Value -> Shared -> Prop) : Result -> Shared -> Prop := fun r s' => match r with | .ok (.ret v) => Q v s' | .ok _ => False | .error e => F.E e s'
end
noncomputable def dget {α : Type} (kvs : List (Str × α)) (k : Str) : Option α := (kvs.find? fun kv => kv.1 = k).map (·.2)
noncomputable def dput {α : Type} (kvs : List (Str × α)) (k : Str) (x : α) : List (Str × α) :=
 if kvs.any (fun kv => kv.1 = k) then kvs.map (fun kv => if kv.1 = k then (kv.1, x) else kv) else kvs ++ [(k, x)]
theorem zet {α : Type} {k k' : Str} {x : α} (h : ¬ k = k') : ∀ r : List (Str × α), ((r.map fun kv => if kv.1 = k then (kv.1, x) else kv).find? fun kv => kv.1 = k').map (·.2) = (r.find? fun kv => kv.1 = k').map (·.2)
 | [] => rfl
 | (a, b) :: r => by
  rw [List.map_cons, List.find?_cons, List.find?_cons]
  by_cases h4 : a = k
  ·subst h4
   simp only [if_true, decide_eq_false h]
   exact zet h r
  ·simp only [if_neg h4]
   by_cases h3 : a = k'
   ·simp only [decide_eq_true h3]
   ·simp only [decide_eq_false h3]
    exact zet h r
theorem zdb {α : Type} (kvs : List (Str × α)) (k k' : Str) (x : α) : dget (dput kvs k x) k' = if k' = k then some x else dget kvs k' := by
 unfold dput
 split
 ·rename_i h
  by_cases e : k' = k
  ·subst e
   rw [if_pos rfl]
   induction kvs with
   | nil => simp at h
   | cons p r ih =>
    obtain ⟨y, z⟩ := p
    unfold dget at ih ⊢
    rw [List.map_cons, List.find?_cons]
    by_cases h1 : y = k'
    ·subst h1; simp
    ·simp only [if_neg h1, decide_eq_false h1]
     exact ih (by simpa [h1] using h)
  ·rw [if_neg e]
   exact zet (fun z => e z.symm) kvs
 ·rename_i h
  have hn : ∀ p ∈ kvs, p.1 ≠ k := fun p hp e => h (List.any_eq_true.mpr ⟨p, hp, by simpa using e⟩)
  unfold dget
  rw [List.find?_append]
  by_cases e : k' = k
  ·subst e
   have : kvs.find? (fun kv => decide (kv.1 = k')) = none := by
    rw [List.find?_eq_none]; intro p hp; simpa using hn p hp
   simp [this]
  ·have e' : ¬ k = k' := fun z => e z.symm
   cases kvs.find? (fun kv => decide (kv.1 = k')) <;> simp [e, e']
theorem zcx {α : Type} (kvs : List (Str × α)) (k : Str) (x : α) : (dput kvs k x).length ≤ kvs.length + 1 := by
 unfold dput; split <;> simp
theorem zik {α : Type} {kvs : List (Str × α)} {k : Str} {x : α} (h : dget kvs k = none) : dput kvs k x = kvs ++ [(k, x)] := by
 unfold dput
 rw [if_neg]
 intro hh
 obtain ⟨p, hp, e⟩ := List.any_eq_true.mp hh
 unfold dget at h
 simp only [Option.map_eq_none_iff, List.find?_eq_none] at h
 exact h p hp e
theorem zil {α : Type} {kvs : List (Str × α)} {k : Str} : dget kvs k = none ↔ k ∉ kvs.map (·.1) := by
 unfold dget
 simp only [Option.map_eq_none_iff, List.find?_eq_none, decide_eq_true_eq, List.mem_map, not_exists, not_and]
section
variable {B : Keep}
theorem za6.any {cs : List (Str × Value)} {kvs : List (Str × V)} (h : za6 B cs kvs) (k : Str) : cs.any (fun kv => kv.1 = k) = kvs.any (fun kv => kv.1 = k) := by
 induction h with
 | nil => rfl
 | cons _ _ ih => simp [ih]
theorem za6.stored {cs : List (Str × Value)} {kvs : List (Str × V)} {k : Str} {v : Value} {X : V} (h : za6 B cs kvs) (r : RelV B v X) : za6 B (stored cs k v) (dput kvs k X) := by
 unfold PySem.stored dput
 rw [h.any k]
 split
 ·rename_i hx
  clear hx
  induction h with
  | nil => exact .nil
  | cons a t ih =>
   simp only [List.map_cons]
   split
   ·exact .cons r ih
   ·exact .cons a ih
 ·exact h.append (.cons r .nil)
theorem za6.get {cs : List (Str × Value)} {kvs : List (Str × V)} {k : Str} (h : za6 B cs kvs) : zc0 B (valueAt cs k) (dget kvs k) := by
 induction h with
 | nil => trivial
 | @cons k' v x vs xs a t ih =>
  unfold valueAt dget at ih ⊢
  simp only [List.find?_cons]
  by_cases e : k' = k
  ·simp [e]; exact a
  ·simp only [e, decide_false]; exact ih
end
theorem zlv (v : Value) (x : Str) : v.isStr x = Value.isStrOf x v := by cases v <;> rfl
theorem za5 {prog : Program} {w : World} (x : Str) (t : Tok) : (PySem.strKind prog w).is x (.str x t) = true := by simp [PySem.strKind, Value.isStrOf]
section
variable {F : Fx} {n : Nat} {loc : Loc} {H : Hp}
noncomputable def zc6 (F : Fx) (f : V) (loc : Loc) (H : Hp) : Prop := ∀ B s v, FRel F B loc H s -> RelV B v f -> ∃ k, ∀ Q : Keeper -> Shared -> Prop, Q k s -> wpAny F.M F.A (keeperOf v) Q F.E s
theorem zdc {v : Value} (h : ∀ a, v ≠ .ref a) : zc6 F (.raw v) loc H := fun B s v' R r => by
 cases r
 refine ⟨.machine, fun Q q => ?_⟩
 unfold keeperOf
 cases v <;> first | exact wpAny_pure q | exact absurd rfl (h _)
theorem zkv {K : Frag} (hK : K.In F.c.base) {a : Addr} (e : keepIn K (.ref a) = true) : zc6 F (.ref a) loc H := fun B s v' R r => by
 obtain rfl := r.rI
 obtain ⟨k, _, h⟩ := looks_keep (M := F.M) e (h := s.heap) (fun a o q => R.inBase (hK a o q))
 exact ⟨k, fun Q q => h _ _ _ s (fun J J e => e) q⟩
theorem zbl {M : Model} {A : Around} {E : Value -> Shared -> Prop} {s : Shared} {pos : Pos} {f : Value} {first : List Value} {args : List (Bool × Sem Value)} {Q : Value -> Shared -> Prop} (hplain : args.any (·.1) = false)
  (h : wpAny M A (evalArgs f true args []) (fun a s₁ => (∃ k, ∀ Q' : Keeper -> Shared -> Prop, Q' k s₁ -> wpAny M A (keeperOf f) Q' E s₁) ∧ wpAny M A (call f (first ++ a.pos) a.kw) Q E s₁) E s) :
  wpAny M A (callWith pos f first args []) Q E s := by
 unfold callWith
 refine wpAny_bind (wpAny_holding (wpAny_mono h (fun x s₁ h₁ => wpAny_bind (wpAny_standAt ?_)) fun J J x => x))
 obtain ⟨⟨k, hk⟩, hc⟩ := h₁
 have tail : ∀ {t : Sem Value}, wpAny M A t Q E s₁ -> wpAny M A (t >>= fun r => holding [r] point >>= fun J => pure r) Q E s₁ :=
  fun ht => wpAny_bind (wpAny_mono ht (fun r s₂ hr => wpAny_bind (wpAny_holding (wpAny_point (wpAny_pure hr)))) fun J J x => x)
 have hst : (args.any (·.1) || ([] : List (Option Str × Sem Value)).any (·.1.isNone)) = false := by rw [hplain]; rfl
 extract_lets starred pp
 have hst2 : starred = false := hst
 clear_value starred
 subst hst2
 refine wpAny_bind (m := keeperOf f) (hk _ ?_)
 cases k
 ·dsimp only
  by_cases hz : args.length + 2 * ([] : List (Option Str × Sem Value)).length > 30
  ·rw [if_pos hz]; exact tail hc
  ·rw [if_neg hz]; exact tail (Calls.wpAny_keep hc)
 ·dsimp only
  by_cases hz : args.length + 2 * ([] : List (Option Str × Sem Value)).length > 30
  ·rw [if_pos hz]; exact tail hc
  ·rw [if_neg hz]; exact tail (Calls.wpAny_keep hc)
 ·exact tail hc
 ·exact tail (wpAny_operating hc)
theorem zbm {M : Model} {A : Around} {E : Value -> Shared -> Prop} {s : Shared} {f : Value} {args : List (Bool × Sem Value)} {Q : Args -> Shared -> Prop} (hplain : args.any (·.1) = false)
  (h : wpAny M A (spliced args) (fun vs s' => Q ⟨vs, []⟩ s') E s) : wpAny M A (evalArgs f true args []) Q E s := by
 cases args with
 | nil =>
  unfold evalArgs
  show wpAny M A (spliced [] >>= _) Q E s
  refine wpAny_bind (wpAny_mono h (fun vs s' h' => ?_) fun J J x => x)
  refine wpAny_holding ?_
  exact wpAny_bind (wpAny_pure (wpAny_bind (wpAny_pure (wpAny_pure h'))))
 | cons p r =>
  obtain ⟨b, x⟩ := p
  simp only [List.any_cons, Bool.or_eq_false_iff] at hplain
  obtain ⟨rfl, _⟩ := hplain
  exact evalArgs_plain h
theorem zav {x : Str} {np pos : Pos} {args : List Expr} {Q : V -> Loc -> Hp -> Prop}
  (h : WE F (.Name x np) loc H fun f l1 H1 => WEs F pos args l1 H1 fun Xs l2 H2 => zc6 F f l2 H2 ∧ Call F f Xs l2 H2 Q)
  (hns : (backTo pos (starEach args F.env)).any (·.1) = false := by rfl) : WE F (.Call (.Name x np) args [] pos) loc H Q := fun B s R =>
 wpAny_Call_ofName ((h B s R).then fun f B1 X l1 H1 s1 le1 rf R1 h1 => zbl hns (zbm hns ((h1 B1 s1 R1).then fun vs B2 Xs l2 H2 s2 le2 rv R2 h2 =>
  ⟨h2.1 B2 s2 f R2 (rf.mono le2), (h2.2 B2 s2 f vs R2 (rf.mono le2) rv).lift (le1.trans le2)⟩)))
noncomputable def MGet (F : Fx) (name : Str) (X : V) (loc : Loc) (H : Hp) (Q : V -> List V -> Loc -> Hp -> Prop) : Prop :=
 ∀ B s v pl, FRel F B loc H s -> RelV B v X -> PW F (getMethod v name pl) (fun B (p : Value × List Value) (q : V × List V) => RelV B p.1 q.1 ∧ zad B p.2 q.2) B s fun q => Q q.1 q.2
theorem zc1 {o : Expr} {name : Str} {apos pos : Pos} {args : List Expr} {Q : V -> Loc -> Hp -> Prop}
  (h : WE F o loc H fun X l1 H1 => MGet F name X l1 H1 fun f Fs l2 H2 => WEs F pos args l2 H2 fun Xs l3 H3 => zc6 F f l3 H3 ∧ Call F f (Fs ++ Xs) l3 H3 Q)
  (hbase : attributeBase o name F.env (eval o F.env) = eval o F.env := by rfl)
  (hfew : methodCallForm (args.length + ([] : List Keyword).length) (backTo pos (starEach args F.env)) (backToKw pos (keywordEach [] F.env)) = true := by rfl)
  (hline : (apos.endLine == pos.line) = true := by rfl)
  (hns : (backTo pos (starEach args F.env)).any (·.1) = false := by rfl) : WE F (.Call (.Attribute o name apos) args [] pos) loc H Q := fun B s R => by
 show wpAny F.M F.A (eval (.Call (.Attribute o name apos) args [] pos) F.env) _ _ _
 rw [arm_eval_Call, hbase]
 refine wpAny_bind ((h B s R).then fun v B1 X l1 H1 s1 le1 rv R1 h1 => wpAny_bind (wpAny_standAt ?_))
 show wpAny _ _ (methodCall o name apos pos F.env v _ _ _) _ _ _
 unfold methodCall
 rw [hfew]
 refine wpAny_bind (wpAny_holding ?_)
 show wpAny _ _ (getMethod v name _) _ _ _
 refine (h1 B1 s1 v _ R1 rv).then fun p B2 q l2 H2 s2 le2 rq R2 h2 => ?_
 have hp : methodCallPos true o F.env apos pos = pure pos := by unfold methodCallPos; rw [hline]; rfl
 obtain ⟨f, fs⟩ := p
 dsimp only
 refine wpAny_bind ?_
 rw [hp]
 refine wpAny_pure ?_
 refine zbl hns (zbm hns ((h2 B2 s2 R2).then fun vs B3 Xs l3 H3 s3 le3 rv' R3 h3 =>
  ⟨h3.1 B3 s3 f R3 (rq.1.mono le3), (h3.2 B3 s3 f _ R3 (rq.1.mono le3) ((rq.2.mono le3).append rv')).lift (le1.trans (le2.trans le3))⟩))
theorem zgt {T : String} {name : Str} {id : String} {X : V} {Q : V -> List V -> Loc -> Hp -> Prop} (pa : PlainAttrs T) (slot : Slot T name id) (hty : typeOf (.builtin id) = pure (.type "method_descriptor"))
  (hT : ∀ B s v, FRel F B loc H s -> RelV B v X -> s.TypeIs v T ∧ (∀ a, v = .ref a -> ∃ ob, s.heap.get? a = some ob ∧ ob.dict = none)) (q : Q (.raw (.builtin id)) [X] loc H) : MGet F name X loc H Q := fun B s v pl R r => by
 obtain ⟨h1, h2⟩ := hT B s v R r
 exact getMethod_builtin h1 pa slot hty h2 (Post.pure (b := (V.raw (.builtin id), [X])) ⟨.raw _, .cons r .nil⟩ R q)
theorem znv {X : V} {xs : List V} (e : asL H X = some xs) : ∀ B s v, FRel F B loc H s -> RelV B v X -> s.TypeIs v "list" ∧ (∀ a, v = .ref a -> ∃ ob, s.heap.get? a = some ob ∧ ob.dict = none) := fun B s v R r => by
 obtain ⟨l, items, m, rfl, hl, hr⟩ := zcb R r e
 exact ⟨hl.isList.typeIs, fun a e => by cases e; exact ⟨_, hl, rfl⟩⟩
theorem zgu {X : V} {xs : List V} {Q : V -> List V -> Loc -> Hp -> Prop} (e : asL H X = some xs) (q : Q (.raw (.builtin "list.append")) [X] loc H) : MGet F "append" X loc H Q :=
 zgt PySem.F.plainAttrs_list PySem.F.slot_list_append PySem.F.type_list_append (znv e) q
set_option tactic.hygienic true in
theorem zeu {a : Addr} {xs : List V} {Y : V} {Q : V -> Loc -> Hp -> Prop} (e : H.L a = some xs) (hz : xs.length ≤ 1000000) (q : Q .none loc (H.aL a (xs ++ [Y]))) :
  Call F (.raw (.builtin "list.append")) [.ref a, Y] loc H Q := fun B s v vs R rv rvs => by
 obtain rfl := rv.wI
 obtain ⟨_, _, rfl, ra, ry⟩ := rvs.c2
 obtain rfl := ra.rI
 obtain ⟨items, m, hl, hr⟩ := (R.own a).l xs e
 have hlen := hr.length
 rw [Array.length_toList] at hlen
 rename_i vy
 have hz' : items.size ≤ sizeLine := by rw [hlen, sizeLine_eq]; lia
 refine call_meets PySem.F.slot_list_append (s := s) (self := .ref a) ⟨_, hl, rfl⟩ PySem.F.entry_list_append (PySem.F.args_list_append_2 _ _) (list_append a items m vy hz') ⟨hl, ?_⟩
 refine Post.pure .none (R.setL e (fun b o hb h => (Heap.get?_update_other _ _ (Ne.symm hb)).trans h) (hl.update _) ?_ rfl rfl) q
 simpa using hr.append (.cons ry .nil)
end
section
variable {F : Fx} {n : Nat} {loc : Loc} {H : Hp}
noncomputable abbrev zqy : Keep -> Unit -> Unit -> Prop := fun J J J => True
noncomputable def WA (F : Fx) (t : Expr) (X : V) (loc : Loc) (H : Hp) (Q : Loc -> Hp -> Prop) : Prop := ∀ B s v, FRel F B loc H s -> RelV B v X -> PW F (assign t F.env v) zqy B s fun J => Q
noncomputable def Set_ (F : Fx) (X Y Z : V) (loc : Loc) (H : Hp) (Q : Loc -> Hp -> Prop) : Prop := ∀ B s o i v, FRel F B loc H s -> RelV B o X -> RelV B i Y -> RelV B v Z -> PW F (setItem o i v) zqy B s fun J => Q
noncomputable def SetA (F : Fx) (name : Str) (X Z : V) (loc : Loc) (H : Hp) (Q : Loc -> Hp -> Prop) : Prop := ∀ B s o v, FRel F B loc H s -> RelV B o X -> RelV B v Z -> PW F (setAttr o name v) zqy B s fun J => Q
theorem zdl {M : Model} {A : Around} {E : Value -> Shared -> Prop} {s : Shared} {vs keep : List Value} {Q : Unit -> Shared -> Prop} (h : Q () s) : wpAny M A (release vs keep) Q E s :=
 fun Γ p hΓ => by rw [PySem.Sem.wp_release]; exact h
theorem zlw (ok : Ok F n) {x : Str} {p : Pos} {i : Nat} {X : V} {Q : Loc -> Hp -> Prop} (hx : look F.nm x = some (i, .local)) (q : Q (loc.set i (some X)) H) : WA F (.Name x p) X loc H Q := fun B s v R r => by
 show wpAny F.M F.A (assign (.Name x p) F.env v) _ _ _
 rw [arm_assign_Name]
 exact wpAny_bind (wpAny_standAt (wpAny_bindName (zie ok hx R r fun s' R' => Post.pure (b := ()) trivial R' q)))
theorem zdd {o i : Expr} {p : Pos} {X : V} {Q : Loc -> Hp -> Prop} (h : WE F o loc H fun O l1 H1 => WE F i l1 H1 fun I l2 H2 => Set_ F O I X l2 H2 Q) : WA F (.Subscript o i p) X loc H Q := fun B s v R r => by
 show wpAny F.M F.A (assign (.Subscript o i p) F.env v) _ _ _
 rw [arm_assign_Subscript]
 refine wpAny_bind (wpAny_holding ((h B s R).then fun ov B1 O l1 H1 s1 le1 ro R1 h1 => wpAny_bind (wpAny_holding ((h1 B1 s1 R1).then fun iv B2 I l2 H2 s2 le2 ri R2 h2 => wpAny_bind (wpAny_standAt (wpAny_bind (wpAny_holding ?_)))))))
 exact wpAny_mono (h2 B2 s2 ov iv v R2 (ro.mono le2) ri (r.mono (le1.trans le2))) (fun J s' q => zdl (q.lift (le1.trans le2))) fun J J x => x
theorem zax {o : Expr} {name : Str} {p : Pos} {X : V} {Q : Loc -> Hp -> Prop} (h : WE F o loc H fun O l1 H1 => SetA F name O X l1 H1 Q) : WA F (.Attribute o name p) X loc H Q := fun B s v R r => by
 show wpAny F.M F.A (assign (.Attribute o name p) F.env v) _ _ _
 rw [arm_assign_Attribute]
 refine wpAny_bind (wpAny_holding ((h B s R).then fun ov B1 O l1 H1 s1 le1 ro R1 h1 => wpAny_bind (wpAny_standAt (wpAny_bind (wpAny_holding ?_)))))
 exact wpAny_mono (h1 B1 s1 ov v R1 ro (r.mono le1)) (fun J s' q => zdl (q.lift le1)) fun J J x => x
noncomputable def WAs (F : Fx) : List Expr -> List V -> Loc -> Hp -> (Loc -> Hp -> Prop) -> Prop
 | [], [], loc, H, Q => Q loc H
 | t :: ts, X :: Xs, loc, H, Q => WA F t X loc H fun l1 H1 => WAs F ts Xs l1 H1 Q
 | _, _, _, _, _ => False
theorem zru {ts : List Expr} (hstar : ∀ t ∈ ts, ∀ e p, t ≠ .Starred e p) : ∀ {vs : List Value} {Xs : List V} {loc : Loc} {H : Hp} {B : Keep} {s : Shared} {Q : Loc -> Hp -> Prop}, FRel F B loc H s -> zad B vs Xs -> WAs F ts Xs loc H Q →
  PW F (assignInOrder ((assignEach ts F.env).map (·.2)) vs) zqy B s fun J => Q := by
 induction ts with
 | nil =>
  intro vs Xs loc H B s Q R r h
  cases r with
  | nil => exact wpAny_pure (Post.pure (b := ()) trivial R h)
  | cons _ _ => exact h.elim
 | cons t ts ih =>
  intro vs Xs loc H B s Q R r h
  cases r with
  | nil => exact h.elim
  | @cons v vs x xs a t2 =>
   have e : assignEach (t :: ts) F.env = (false, assign t F.env) :: assignEach ts F.env := by
    cases t <;> first | rfl | exact absurd rfl (hstar _ (.head _) _ _)
   show wpAny F.M F.A (assignInOrder ((assignEach (t :: ts) F.env).map (·.2)) (v :: vs)) _ _ _
   rw [e]
   show wpAny F.M F.A (holding vs (assign t F.env v) >>= fun J => assignInOrder ((assignEach ts F.env).map (·.2)) vs) _ _ _
   exact wpAny_bind (wpAny_holding ((h B s v R a).then fun J B1 J l1 H1 s1 le1 J R1 h1 => (ih (fun t ht => hstar t (.tail _ ht)) R1 (t2.mono le1) h1).lift le1))
theorem zbg (ok : Ok F (n + 1)) {ts : List Expr} {k : Nat} {p : Pos} {Xs : List V} {Q : Loc -> Hp -> Prop} (hl : ts.length = Xs.length) (h : WAs F ts Xs loc H Q) (hstar : ∀ t ∈ ts, ∀ e p, t ≠ .Starred e p := by simp) : WA F (.Tuple ts k p) (.tup Xs) loc H Q := fun B s v R r => by
 obtain ⟨_, _, _, rfl, hb, hr⟩ := r.tI
 have e : ∀ ts : List Expr, (∀ t ∈ ts, ∀ e p, t ≠ .Starred e p) -> (assignEach ts F.env).length = ts.length ∧ (assignEach ts F.env).findIdx? (·.1) = none := by
  intro ts
  induction ts with
  | nil => intro _; exact ⟨rfl, rfl⟩
  | cons t ts ih =>
   intro hs
   have e : assignEach (t :: ts) F.env = (false, assign t F.env) :: assignEach ts F.env := by
    cases t <;> first | rfl | exact absurd rfl (hs _ (.head _) _ _)
   obtain ⟨i1, i2⟩ := ih fun t ht => hs t (.tail _ ht)
   rw [e]
   exact ⟨by simp [i1], by simp [List.findIdx?_cons, i2]⟩
 obtain ⟨e1, e2⟩ := e ts hstar
 have hlen := hr.length
 rw [Array.length_toList] at hlen
 refine wpAny_assign_Tuple (ok.handled (by lia)) ⟨_, R.keep _ _ hb, rfl, _, rfl⟩ (by rw [e1, hl, hlen]) e2 fun h' he => ?_
 exact zru hstar (R.grow (s' := { s with heap := h' }) (fun b o q => he b o (Nat.ne_of_lt (Heap.lt_size q)) q) rfl rfl) hr h
theorem zae {t e : Expr} {pos : Pos} {Q : Fl -> Loc -> Hp -> Prop} (h : WE F e loc H fun X l1 H1 => WA F t X l1 H1 fun l2 H2 => Q .next l2 H2)
  (hs : swapsWithSole [t] e pos.line F.env = pure false := by rfl) (hw : swappedStores [t] e F.env = pure none := by rfl)
  (he : (assignEach [t] F.env).map (·.2) = [assign t F.env] := by rfl) : WS F (.Assign [t] e pos) loc H Q := fun B s R => by
 refine wpAny_Assign_stores ((h B s R).then fun v B1 X l1 H1 s1 le1 r R1 h1 => ?_) hs hw
 rw [he]
 exact wpAny_mono (h1 B1 s1 v R1 r) (fun _ s' ⟨B2, _, l2, H2, le2, _, R2, q⟩ => (Post.pure .next R2 q).lift (le1.trans le2)) fun J J x => x
theorem zrv {e : Expr} {pos : Pos} {Q : Fl -> Loc -> Hp -> Prop} (h : WE F e loc H fun X l1 H1 => Q .next l1 H1) (hi : interactive F.env = false := by rfl) (hs : swapsWith e none pos.line F.env = pure false := by rfl) : WS F (.Expr e pos) loc H Q := fun B s R =>
 wpAny_Expr_any ((h B s R).then fun v B1 X l1 H1 s1 le1 r R1 q => (Post.pure .next R1 q).lift le1) hi hs
theorem ztt (ok : Ok F n) {x : Str} {p pos : Pos} {i : Nat} {op : Operator} {e : Expr} {X : V} {Q : Fl -> Loc -> Hp -> Prop} (hx : look F.nm x = some (i, .local)) (hv : loc[i]? = some (some X))
  (h : WE F e loc H fun Y l1 H1 => Op2 F (inplaceOp op) X Y l1 H1 fun Z l2 H2 => Q .next (l2.set i (some Z)) H2) : WS F (.AugAssign (.Name x p) op e pos) loc H Q := fun B s R => by
 obtain ⟨h1, h2⟩ := zbw hx
 obtain ⟨m, hm, hl⟩ := R.ns
 obtain ⟨v, ev, r⟩ := hl x i X h1 hv
 refine wpAny_AugAssign_Name (wpAny_loadName_local ok.fn h2 hm ev ((h B s R).then fun y B1 Y l1 H1 s1 le1 ry R1 h1 => (h1 B1 s1 v y R1 (r.mono le1) ry).then fun z B2 Z l2 H2 s2 le2 rz R2 q =>
  zie ok hx R2 rz fun s' R' => (Post.pure .next R' q).lift (le1.trans le2)))
theorem zcp {B : Keep} {s : Shared} (R : FRel F B loc H s) {d : Addr} {kvs : List (Str × V)} (e : H.D d = some kvs) : ∃ cs, s.heap.DictOf (PySem.strKind F.c.prog F.c.w) d cs ∧ za6 B cs kvs ∧ (d == sysModules) = false := by
 obtain ⟨_, cs, h1, h2⟩ := (R.own d).d kvs e
 refine ⟨cs, h1, h2, ?_⟩
 have hw : H.Own d := .inr (.inl (by rw [e]; simp))
 have h3 := ((R.own d).out hw).2
 have h4 := R.lim.1
 have : d ≠ 1 := Nat.ne_of_gt (Nat.lt_of_le_of_lt h4 h3)
 simpa [sysModules] using this
theorem zht {B : Keep} {v : Option Value} {x : Option V} (r : zc0 B v x) : v.isSome = x.isSome := by
 cases v <;> cases x <;> first | rfl | exact r.elim
theorem zev {k : Str} {d : Addr} {kvs : List (Str × V)} {Q : Bool -> Loc -> Hp -> Prop} (e : H.D d = some kvs) (q : Q (dget kvs k).isSome loc H) : Cmp F .In (.str k) (.ref d) loc H Q := fun B s a b R ra rb => by
 obtain ⟨_, rfl, _⟩ := ra.sI; obtain rfl := rb.rI
 obtain ⟨cs, h1, h2, h3⟩ := zcp R e
 refine wpAny_in_of (za5 _ _) h3 h1.mapOf (Post.pure ?_ (R.tok _) q)
 rw [zht h2.get]
theorem zec {k : Str} {d : Addr} {kvs : List (Str × V)} {Q : Bool -> Loc -> Hp -> Prop} (e : H.D d = some kvs) (q : Q (!(dget kvs k).isSome) loc H) : Cmp F .NotIn (.str k) (.ref d) loc H Q := fun B s a b R ra rb => by
 obtain ⟨_, rfl, _⟩ := ra.sI; obtain rfl := rb.rI
 obtain ⟨cs, h1, h2, h3⟩ := zcp R e
 refine wpAny_notIn_of (za5 _ _) h3 h1.mapOf (Post.pure ?_ (R.tok _) q)
 rw [zht h2.get]
theorem zc2 {k : Str} {d : Addr} {kvs : List (Str × V)} {X : V} {Q : V -> Loc -> Hp -> Prop} (e : H.D d = some kvs) (hx : dget kvs k = some X) (q : Q X loc H) : Sub F (.ref d) (.str k) loc H Q := fun B s o i R ro ri => by
 obtain rfl := ro.rI; obtain ⟨_, rfl, _⟩ := ri.sI
 obtain ⟨cs, h1, h2, h3⟩ := zcp R e
 have h4 := h2.get (k := k)
 rw [hx] at h4
 cases e5 : valueAt cs k with
 | none => rw [e5] at h4; exact h4.elim
 | some v =>
  rw [e5] at h4
  exact ⟨"dict", _, slot_dict_getitem.lookup, h1.typeIs, wpAny_getItem_of (za5 _ _) h1.mapOf e5 (Post.pure h4 (R.tok _) q)⟩
theorem zb6 {k : Str} {d : Addr} {kvs : List (Str × V)} {Z : V} {Q : Loc -> Hp -> Prop} (e : H.D d = some kvs) (eG : H.G d = none) (hz : kvs.length ≤ 100000) (q : Q loc (H.aD d (dput kvs k Z))) : Set_ F (.ref d) (.str k) Z loc H Q := fun B s o i v R ro ri rv => by
 obtain rfl := ro.rI; obtain ⟨t, rfl, hk⟩ := ri.sI
 obtain ⟨cs, h1, h2, h3⟩ := zcp R e
 refine wpAny_setItem_pairs (knd := PySem.strKind F.c.prog F.c.w) (za5 _ _) h1 (fun h' hd' hs' => Post.pure (b := ()) trivial (R.setD (s' := { s with heap := h', toks := s.toks + 1 }) e eG (fun b o hb h => (hs'.2 b hb).trans h) ?_ hd' (h2.stored rv) rfl rfl) q) (by rw [h2.length, sizeLine_eq]; lia)
 have h5 := ((R.own d).d kvs e).1
 intro p hp
 unfold dput at hp
 split at hp
 ·obtain ⟨p', hp', rfl⟩ := List.mem_map.mp hp
  split
  ·exact h5 p' hp'
  ·exact h5 p' hp'
 ·rcases List.mem_append.mp hp with hp | hp
  ·exact h5 _ hp
  ·simp at hp; subst hp; exact hk
theorem zhu {B : Keep} {s : Shared} {P : Value -> Shared -> Prop} (R : FRel F B loc H s) (h : ∀ a s', H.Fresh a -> FRel F B loc (H.aD a []) s' -> P (.ref a) s') : wpAny F.M F.A newDict P F.E s := by
 refine wpAny_bind (wpAny_alloc (wpAny_pure ?_))
 refine h s.heap.objs.size _ (R.fresh_H (R.fresh (Nat.le_refl _)).1) (R.newD (cs := []) (Nat.le_refl _) (fun b o e => Heap.get?_push_of_some _ e) (fun p hp => nomatch hp) ?_ .nil rfl rfl)
 exact ⟨_, #[], 0, Heap.get?_push_size _ rfl, ⟨rfl, rfl, rfl⟩, rfl, fun J he => by simp at he, .nil, List.nodup_nil⟩
theorem zb7 {pos : Pos} {Q : V -> Loc -> Hp -> Prop} (q : ∀ a, H.Fresh a -> Q (.ref a) loc (H.aD a [])) : WE F (.Dict [] [] pos) loc H Q := fun B s R => by
 show wpAny F.M F.A (eval (.Dict [] [] pos) F.env) _ _ _
 rw [eval_Dict_empty]
 exact wpAny_bind (wpAny_standAt (zhu R fun a s' hf R' => Post.pure (.ref a) R' (q a hf)))
theorem zkw {K : Frag} {B : Keep} {s : Shared} (R : FRel F B loc H s) {x C d : Addr} {fs : List (Str × V)} (eI : H.I x = some (C, d)) (eD : H.D d = some fs) :
  ∃ od es ep cs, InstAt s.heap x (zcm C d) C (some od) ∧ s.heap.get? d = some od ∧ od.ExactDict ∧ od.data = .dict es ep ∧ KeysOf (PySem.strKind F.c.prog F.c.w) es ∧ Pairs (PySem.strKind F.c.prog F.c.w) es.toList cs ∧ (cs.map (·.1)).Nodup ∧ za6 B cs fs := by
 obtain ⟨_, cs, ⟨od, es, ep, h1, h2, h3, h4, h5, h6⟩, h7⟩ := (R.own d).d fs eD
 exact ⟨od, es, ep, cs, ⟨(R.own x).i _ eI, rfl, rfl, h1⟩, h1, h2, h3, h4, h5, h6, h7⟩
theorem znw {prog : Program} {w : World} {es : Array DictEntry} (hk : KeysOf (PySem.strKind prog w) es) : es.toList.any (·.refKey) = false := by
 rw [List.any_eq_false]
 intro e he
 obtain ⟨k, hk1, _⟩ := hk e (by simpa using he)
 obtain ⟨t, ht⟩ := Value.isStrOf_shape hk1
 unfold DictEntry.refKey
 rw [ht]; simp
theorem zmv {prog : Program} {w : World} {od : Obj} {es : Array DictEntry} {ep : Nat} {cs : List (Str × Value)} {v : Value} {t : Tok} (hx : od.ExactDict) (hd : od.data = .dict es ep) (hk : KeysOf (PySem.strKind prog w) es) (hp : Pairs (PySem.strKind prog w) es.toList cs) (hn : (cs.map (·.1)).Nodup) (name : Str) :
  ∃ es' ep', (Obj.putName name (hashStr w name) (.str name t) v od) = { od with data := .dict es' ep' } ∧ KeysOf (PySem.strKind prog w) es' ∧ Pairs (PySem.strKind prog w) es'.toList (stored cs name v) ∧ ((stored cs name v).map (·.1)).Nodup ∧ es'.size ≤ es.size + 1 := by
 rw [Obj.putName_eq]
 obtain ⟨c, d, dt, sl⟩ := od
 dsimp only at hd
 subst hd
 have e0 : (fun e : DictEntry => e.key.isStr name) = fun e => (PySem.strKind prog w).is name e.key := funext fun e => zlv _ _
 have hkey : (PySem.strKind prog w).is name (.str name t) = true := za5 _ _
 have hidx : (es.findIdx? fun e => (PySem.strKind prog w).is name e.key) = cs.findIdx? fun kv => decide (kv.1 = name) := by
  rw [← hp.findIdx name]; obtain ⟨l⟩ := es; simp
 unfold Obj.putNameByArray
 simp only [e0]
 cases hi : es.findIdx? fun e => (PySem.strKind prog w).is name e.key with
 | some i =>
  refine ⟨_, _, rfl, hk.modify _ _, ?_, ?_, by simp⟩
  ·rw [stored, if_pos (any_of_findIdx_some (hidx ▸ hi))]
   have hl : (es.toList.findIdx? fun e => (PySem.strKind prog w).is name e.key) = some i := by rw [← hi]; obtain ⟨l⟩ := es; simp
   have := hp.modify hn hl v
   obtain ⟨l⟩ := es
   simpa using this
  ·rw [stored, if_pos (any_of_findIdx_some (hidx ▸ hi)), keys_map_store]; exact hn
 | none =>
  have hnot : name ∉ cs.map (·.1) := not_mem_of_findIdx_none (hidx ▸ hi)
  have hany : ¬ (cs.any fun kv => decide (kv.1 = name)) = true := by
   rw [List.any_eq_true]; rintro ⟨kv, hkv, he⟩
   exact hnot (List.mem_map.mpr ⟨kv, hkv, of_decide_eq_true he⟩)
  refine ⟨_, _, rfl, hk.push hkey _, ?_, ?_, by simp⟩
  ·rw [stored, if_neg hany]
   have := hp.append hkey (hashStr w name) v
   obtain ⟨l⟩ := es
   simpa using this
  ·rw [stored, if_neg hany, List.map_append, List.nodup_append]
   refine ⟨hn, by simp, ?_⟩
   intro a ha b hb
   simp only [List.map_cons, List.map_nil, List.mem_singleton] at hb
   subst hb
   exact fun e => hnot (e ▸ ha)
theorem zd0 {prog : Program} {w : World} {od : Obj} {es : Array DictEntry} {ep : Nat} {cs : List (Str × Value)} (hd : od.data = .dict es ep) (hk : KeysOf (PySem.strKind prog w) es) (hp : Pairs (PySem.strKind prog w) es.toList cs) (name : Str) : lookIn name od = some (valueAt cs name) := by
 unfold lookIn
 rw [hd]
 dsimp only
 have h := hp.find name
 have e : (fun e : DictEntry => (PySem.strKind prog w).is name e.key) = fun e => e.key.isStr name := funext fun e => (zlv _ _).symm
 rw [e] at h
 have hr : es.toList.any (·.refKey) = false := by
  rw [List.any_eq_false]
  intro e he
  obtain ⟨k, hk1, _⟩ := hk e (by simpa using he)
  obtain ⟨t, ht⟩ := Value.isStrOf_shape hk1
  unfold DictEntry.refKey
  rw [ht]; simp
 cases hf : es.toList.find? (fun e => e.key.isStr name) with
 | some en => rw [hf] at h; simp only [Option.map_some] at h; rw [← h]
 | none => rw [hf] at h; simp only [Option.map_none] at h; rw [← h]; simp [hr]
noncomputable def zfk : V -> Bool
 | .raw _ => false
 | _ => true
theorem zjj {B : Keep} {v : Value} {X : V} (r : RelV B v X) (h : zfk X = true) : handedIn v = true := by
 cases r <;> first | rfl | cases h
noncomputable def GetA (F : Fx) (name : Str) (X : V) (loc : Loc) (H : Hp) (Q : V -> Loc -> Hp -> Prop) : Prop := ∀ B s o, FRel F B loc H s -> RelV B o X -> PW F (getAttr o name true) RelV B s Q
theorem zpo {K : Frag} (hK : K.In F.c.base) {x C d : Addr} {fs : List (Str × V)} {name : Str} {Y : V} {Q : V -> Loc -> Hp -> Prop} (eI : H.I x = some (C, d)) (eD : H.D d = some fs) (hy : dget fs name = some Y) (hr : zfk Y = true)
  (hg : plainGet K C name = true) (hh : hasDictIn K C = true) (ha : findIn K (.ref C) name = some none) (q : Q Y loc H) : GetA F name (.ref x) loc H Q := fun B s o R ro => by
 obtain rfl := ro.rI
 obtain ⟨od, es, ep, cs, I, h1, h2, h3, h4, h5, h6, h7⟩ := zkw (K := K) R eI eD
 have h8 := h7.get (k := name)
 rw [hy] at h8
 cases e5 : valueAt cs name with
 | none => rw [e5] at h8; exact h8.elim
 | some v =>
  rw [e5] at h8
  exact get_value (fun a o e => R.inBase (hK a o e)) I (plainGet_of hg).1 (findObj_own hh ha rfl (by rw [zd0 h3 h4 h5, e5])) (zjj h8 hr) (Post.pure h8 (R.tok _) q)
theorem zaq {o : Expr} {name : Str} {pos : Pos} {Q : V -> Loc -> Hp -> Prop} (h : WE F o loc H fun X l1 H1 => GetA F name X l1 H1 Q) (hbase : attributeBase o name F.env (eval o F.env) = eval o F.env := by rfl) : WE F (.Attribute o name pos) loc H Q := fun B s R => by
 show wpAny F.M F.A (eval (.Attribute o name pos) F.env) _ _ _
 rw [arm_eval_Attribute, hbase]
 exact wpAny_bind ((h B s R).then fun v B1 X l1 H1 s1 le1 r R1 h1 => wpAny_bind (wpAny_standAt (wpAny_bind (wpAny_holding ((h1 B1 s1 v R1 r).then fun y B2 Y l2 H2 s2 le2 ry R2 q =>
  wpAny_bind (wpAny_letTemporaryGo (wpAny_pure ((Post.pure ry R2 q).lift (le1.trans le2)))))))))
theorem zpp {K : Frag} (hK : K.In F.c.base) {x C d f : Addr} {fs : List (Str × V)} {name : Str} {Q : V -> List V -> Loc -> Hp -> Prop} (eI : H.I x = some (C, d)) (eD : H.D d = some fs) (hy : dget fs name = none)
  (hg : plainGet K C name = true) (hf : findIn K (.ref C) name = some (some (.ref f))) (ht : isFn K (.ref f) = true) (q : Q (.ref f) [.ref x] loc H) : MGet F name (.ref x) loc H Q := fun B s o pl R ro => by
 obtain rfl := ro.rI
 obtain ⟨od, es, ep, cs, I, h1, h2, h3, h4, h5, h6, h7⟩ := zkw (K := K) R eI eD
 have h8 := h7.get (k := name)
 rw [hy] at h8
 cases e5 : valueAt cs name with
 | some v => rw [e5] at h8; exact h8.elim
 | none =>
  refine method_fn (fun a o e => R.inBase (hK a o e)) I (plainGet_of hg).1 (plainGet_of hg).2 hf (beq_iff_eq.mp ht) ?_ (Post.pure (b := (V.ref f, [V.ref x])) ⟨.ref _, .cons (.ref _) .nil⟩ R q)
  unfold shadowIn
  simp only
  rw [zd0 h3 h4 h5, e5]; rfl
theorem zpq {K : Frag} (hK : K.In F.c.base) {x C d : Addr} {fs : List (Str × V)} {name : Str} {Z : V} {Q : Loc -> Hp -> Prop} (eI : H.I x = some (C, d)) (eD : H.D d = some fs) (eG : H.G d = none)
  (hs : findIn K (.ref C) "__setattr__" = some (some (.builtin "object.__setattr__"))) (hp : plainOver K C = true) (ht : takerIn K C name = some none) (hh : hasDictIn K C = true) (hn : PyData.strOk name = true) (hz : fs.length ≤ 900)
  (q : Q loc (H.aD d (dput fs name Z))) : SetA F name (.ref x) Z loc H Q := fun B s o v R ro rv => by
 obtain rfl := ro.rI
 have X : K.In s.heap := fun a o e => R.inBase (hK a o e)
 obtain ⟨od, es, ep, cs, I, h1, h2, h3, h4, h5, h6, h7⟩ := zkw (K := K) R eI eD
 refine set_plain X I hs (osa_open (s := { s with toks := s.toks + 1 }) X I hp ht fun b => ?_)
 obtain ⟨cd, hc, hd'⟩ := any_some hh
 refine wpAny_bind (wpAny_pure (wpAny_bind (wpAny_bind (wpAny_loadPart I.at_ (wpAny_bind ((looks_clsIn X hc) _ _ _ _ (fun J J e => e) ?_))))))
 rw [hd']
 refine wpAny_pure (a := some d) (wpAny_bind (wpAny_pure (wpAny_bind ?_)))
 unfold nsSet
 refine wpAny_bind (wpAny_bind (wpAny_askSetting (wpAny_pure (wpAny_bind (wpAny_mkText (wpAny_bind (wpAny_loadPart h1 ?_)))))))
 rw [h3]
 dsimp only
 have hr : es.toList.any (·.refKey) = false := znw h4
 have c : (!es.any (·.key.isStr name) && es.any (·.refKey)) = false := by
  rw [← Array.any_toList, ← Array.any_toList, hr, Bool.and_false]
 rw [aRefKeyMayBeTheName_at, c]
 refine wpAny_updatePart h1 ?_
 obtain ⟨es', ep', hd1, hd2, hd3, hd4, hd5⟩ := zmv (v := v) (t := s.toks + 1) h2 h3 h4 h5 h6 name
 have hlen : es.size = fs.length := by
  have e1 := h5.length
  rw [Array.length_toList] at e1
  rw [e1, h7.length]
 have hup : (s.heap.update d (Obj.putName name (hashStr F.c.w name) (.str name (s.toks + 1)) v)).get? d = some { od with data := .dict es' ep' } := by
  rw [← hd1]
  refine Heap.get?_update_self _ h1 ?_
  rw [hd1]; rfl
 refine wpAny_bind (wpAny_lookBehind (o := { od with data := .dict es' ep' }) hup ?_ ?_)
 ·exact pastItsLine_dict (by rw [sizeLine_eq]; lia)
 ·refine wpAny_pure ?_
  refine Post.pure (b := ()) trivial (R.setD (s' := { s with heap := s.heap.update d (Obj.putName name (hashStr F.c.w name) (.str name (s.toks + 1)) v), toks := s.toks + 1 + 1 }) eD eG (fun b o hb h => (Heap.get?_update_other _ _ (Ne.symm hb)).trans h) ?_ ⟨_, es', ep', hup, h2, rfl, hd2, hd3, hd4⟩ (h7.stored rv) rfl rfl) q
  have h5 := ((R.own d).d fs eD).1
  intro p hp
  unfold dput at hp
  split at hp
  ·obtain ⟨p', hp', rfl⟩ := List.mem_map.mp hp
   split
   ·exact h5 p' hp'
   ·exact h5 p' hp'
  ·rcases List.mem_append.mp hp with hp | hp
   ·exact h5 _ hp
   ·simp at hp; subst hp; exact hn
end
section
open AutoSeq1 (wpAny_loadPart')
end
section
variable {prog : Program} {w : World} {A : Around} {E : Value -> Shared -> Prop} {s : Shared}
theorem zfq {it t : Addr} {i : Nat} {items} {x : Value} {Q : Value -> Shared -> Prop} (hit : s.heap.IsTupleIter it t i)
  (ht : s.heap.IsTuple t items) (hx : items[i]? = some x)
  (hQ : ∀ h', h'.IsTupleIter it t (i + 1) -> Heap.SameBut it s.heap h' -> Q x { s with heap := h' }) :
  wpAny (model prog w) A (Builtin.SmallTypes.nextOf (.ref it)) Q E s := by
 obtain ⟨o, ho, hc, hd⟩ := id hit
 obtain ⟨ol, hol, _, nl, hdl⟩ := ht
 unfold Builtin.SmallTypes.nextOf
 refine wpAny_bind (wpAny_callSpecial?_slot (name := Str.ofString "__next__") hit.typeIs PySem.F.slot_tuple_iterator_next
  (wpAny_call_entry PySem.F.slot_tuple_iterator_next hit.typeIs PySem.F.entry_tuple_iterator_next ?_ (PySem.F.args_tuple_iterator_next_1 _)))
 show wpAny _ _ (field (.ref it) 0 >>= _) _ _ s
 refine wpAny_bind (wpAny_field ho hd (x := .ref t) rfl ?_)
 show wpAny _ _ (if (Value.ref t == Value.none) = true then _ else _) _ _ s
 rw [if_neg (show ¬ ((Value.ref t == Value.none) = true) from Bool.false_ne_true)]
 show wpAny _ _ (field (.ref it) 1 >>= _) _ _ s
 refine wpAny_bind (wpAny_field ho hd (x := .int i 0) rfl ?_)
 show wpAny _ _ (seqItems? (.ref t) >>= _) _ _ s
 refine wpAny_bind (wpAny_seqItems hol hdl ?_)
 simp only [Int.toNat_natCast, hx]
 refine wpAny_bind (wpAny_setField ho hd (by simp) (wpAny_pure ⟨_, rfl, wpAny_pure (hQ _ ?_ (Heap.SameBut.update ..))⟩))
 exact ⟨_, Heap.get?_update_self _ ho (Obj.isFreed_of_fields (Obj.data_mapFields hd _)), (Obj.cls_mapFields ..).trans hc, by
  rw [Obj.data_mapFields hd]; simp [rawInt]⟩
theorem zgg {it t : Addr} {i : Nat} {items} {Q : Value -> Shared -> Prop} (hh : A.handled = none)
  (hit : s.heap.IsTupleIter it t i) (ht : s.heap.IsTuple t items) (hx : items[i]? = none)
  (hE : ∀ h' e, Heap.ExtBut it s.heap h' -> (∃ o, h'.get? e = some o ∧ o.cls = .type "StopIteration") -> E (.ref e) { s with heap := h' }) :
  wpAny (model prog w) A (Builtin.SmallTypes.nextOf (.ref it)) Q E s := by
 obtain ⟨o, ho, hc, hd⟩ := id hit
 obtain ⟨ol, hol, _, nl, hdl⟩ := ht
 unfold Builtin.SmallTypes.nextOf
 refine wpAny_bind (wpAny_callSpecial?_slot (name := Str.ofString "__next__") hit.typeIs PySem.F.slot_tuple_iterator_next
  (wpAny_call_entry PySem.F.slot_tuple_iterator_next hit.typeIs PySem.F.entry_tuple_iterator_next ?_ (PySem.F.args_tuple_iterator_next_1 _)))
 show wpAny _ _ (field (.ref it) 0 >>= _) _ _ s
 refine wpAny_bind (wpAny_field ho hd (x := .ref t) rfl ?_)
 show wpAny _ _ (if (Value.ref t == Value.none) = true then _ else _) _ _ s
 rw [if_neg (show ¬ ((Value.ref t == Value.none) = true) from Bool.false_ne_true)]
 show wpAny _ _ (field (.ref it) 1 >>= _) _ _ s
 refine wpAny_bind (wpAny_field ho hd (x := .int i 0) rfl ?_)
 show wpAny _ _ (seqItems? (.ref t) >>= _) _ _ s
 refine wpAny_bind (wpAny_seqItems hol hdl ?_)
 simp only [Int.toNat_natCast, hx]
 refine wpAny_bind (wpAny_rule (wpAny_bind (wpAny_setField ho hd (by simp) ?_)))
 show wpAny _ _ (newExc (.type "StopIteration") [] >>= _) _ _ _
 refine wpAny_bind ?_
 simp only [newExc, newTuple]
 refine wpAny_bind (wpAny_newObj_type ?_ (by size_fits))
 refine wpAny_bind (m := firstArgMember _ _) (wpAny_of_eq (a := Value.none) (by first | rfl | (simp only [firstArgMember]; rfl)) ?_)
 refine wpAny_newObj_type ?_ (by size_fits)
 unfold raiseNew
 refine wpAny_bind (wpAny_handled ?_)
 first | rw [show A.in1.handled = none from hh] | rw [hh]
 refine wpAny_bind (wpAny_pure (wpAny_throw ?_))
 exact hE _ _ (((Heap.SameBut.update ..).extBut.push _).push _) ⟨_, Heap.get?_push_size _ rfl, rfl⟩
theorem zmw {h h' : Heap} {a items} (x : h.IsTuple a items) (e : ∀ o, h.get? a = some o -> h'.get? a = some o) : h'.IsTuple a items := let ⟨o, ho, r⟩ := x; ⟨o, e _ ho, r⟩
theorem zhl {h h' : Heap} {a l i} (x : h.IsTupleIter a l i) (e : ∀ o, h.get? a = some o -> h'.get? a = some o) : h'.IsTupleIter a l i := let ⟨o, ho, r⟩ := x; ⟨o, e _ ho, r⟩
theorem zgv (hh : A.handled = none) (it t : Addr) (hne : t ≠ it) (items : Array Value) :
  Draws prog w A it [it, t] items.size (fun i v => items[i]? = some v) (fun i h => h.IsTupleIter it t i ∧ h.IsTuple t items) where
 live := fun J J st => let ⟨o, ho, _⟩ := st.1; ⟨o, ho⟩
 frame := fun J J J st hk => ⟨zhl st.1 fun o e => hk it (by simp) o e, zmw st.2 fun o e => hk t (by simp) o e⟩
 item := fun i s Q E hi st hQ => by
  refine zfq st.1 st.2 (x := items[i]) (by simp [hi]) fun h' hit' hs' => ?_
  exact hQ _ h' s.toks (by simp [hi]) ⟨hit', st.2.extBut hs'.extBut hne⟩ hs'
 done := fun s Q E st hE => zgg hh st.1 st.2 (by simp) hE
theorem zgw (l : Addr) (items : Array Value) (n : Nat) :
  Meets (Builtin.«enumerate.__new__» ⟨[.type "enumerate", .ref l], []⟩) (fun J R s => s.heap.get? l = some { cls := .type "tuple", dict := none, data := .seq items n, slots := #[] } ∧
   R (.ok (.ret (.ref (s.heap.push { cls := .type "tuple_iterator", data := .fields #[.ref l, .int 0 0] }).objs.size)))
    { s with heap := (s.heap.push { cls := .type "tuple_iterator", data := .fields #[.ref l, .int 0 0] }).push { cls := .type "enumerate", data := .fields #[.none, .bool false, .ref s.heap.objs.size, rawInt 0, .none, .none] } }) :=
 .of_wp fun prog w A R s h => by
  obtain ⟨hp, g, d, tk, os⟩ := s; obtain ⟨hl, h⟩ := h
  have hsub := sub_enumerate
  have hL : Heap.IsTuple (Shared.heap ⟨hp, g, d, tk, os⟩) l items := ⟨_, hl, rfl, n, rfl⟩
  wp_walk using wpAny_loadPart' hl
  refine wpAny_stack_any fun st => wpAny_pure ?_
  generalize Builtin.SmallTypes.calledThroughType.match_1 _ _ _ _ = bb
  cases bb
  ·wp_walk using wpAny_loadPart' hl, wpAny_pyIter_tuple hL
   exact ⟨_, rfl, h⟩
  ·wp_walk using wpAny_loadPart' hl, wpAny_pyIter_tuple hL
   exact ⟨_, rfl, h⟩
theorem zgx {l : Addr} {items : Array Value} {n : Nat} {Q : Value -> Shared -> Prop}
  (hl : s.heap.get? l = some { cls := .type "tuple", dict := none, data := .seq items n, slots := #[] })
  (h : ∀ h', IsEnum h' (s.heap.objs.size + 1) s.heap.objs.size 0 .none -> h'.IsTupleIter s.heap.objs.size l 0 -> h'.objs.size = s.heap.objs.size + 2 →
   (∀ b o, s.heap.get? b = some o -> h'.get? b = some o) -> Q (.ref (s.heap.objs.size + 1)) { s with heap := h' }) :
  wpAny (model prog w) A (call (.type "enumerate") [.ref l]) Q E s := by
 refine callType_new PySem.F.called_enumerate (by decide) (PySem.F.typeCall_enumerate_1 _) (PySem.F.newCall_enumerate_1 _) (fun obj => PySem.F.args_object_init_2 obj _) PySem.F.entry_enumerate_new
  (zgw l items n) ⟨hl, ?_⟩
 have hz : (s.heap.push { cls := .type "tuple_iterator", data := .fields #[.ref l, .int 0 0] }).objs.size = s.heap.objs.size + 1 := Heap.size_push ..
 show _ ∧ _
 rw [hz]
 have he : IsEnum ((s.heap.push { cls := .type "tuple_iterator", data := .fields #[.ref l, .int 0 0] }).push
   { cls := .type "enumerate", data := .fields #[.none, .bool false, .ref s.heap.objs.size, rawInt 0, .none, .none] }) (s.heap.objs.size + 1) s.heap.objs.size 0 .none := by
  have := Heap.get?_push_size (s.heap.push { cls := .type "tuple_iterator", data := .fields #[.ref l, .int 0 0] })
   (o := { cls := .type "enumerate", data := .fields #[.none, .bool false, .ref s.heap.objs.size, rawInt 0, .none, .none] }) rfl
  rw [hz] at this; exact this
 refine ⟨⟨_, he, rfl⟩, h _ he ⟨_, Heap.get?_push_of_some _ (Heap.get?_push_size _ rfl), rfl, rfl⟩ (by rw [Heap.size_push, hz]) fun b o y => Heap.get?_push_of_some _ (Heap.get?_push_of_some _ y)⟩
end
noncomputable def un {α : Type} (f : Addr -> Option α) (a : Addr) : Addr -> Option α := fun b => if b = a then none else f b
noncomputable abbrev Hp.uL (H : Hp) (a : Addr) : Hp := { H with L := un H.L a }
noncomputable abbrev Hp.uD (H : Hp) (a : Addr) : Hp := { H with D := un H.D a }
noncomputable abbrev Hp.uI (H : Hp) (a : Addr) : Hp := { H with I := un H.I a }
@[simp] theorem zgy {α : Type} (f : Addr -> Option α) (a : Addr) : un f a a = none := by simp [un]
theorem zhm {α : Type} {f : Addr -> Option α} {a b : Addr} (h : b ≠ a) : un f a b = f b := by simp [un, h]
theorem zjk {α : Type} {f : Addr -> Option α} {a : Addr} {x : α} (h : f a = none) : un (up f a x) a = f := funext fun b => by
 by_cases e : b = a
 ·subst e; simp [h]
 ·simp [un, up, e]
noncomputable def Hp.Sub (H' H : Hp) : Prop := ∀ a, (H'.L a = none ∨ H'.L a = H.L a) ∧ (H'.D a = none ∨ H'.D a = H.D a) ∧ (H'.P a = none ∨ H'.P a = H.P a) ∧ (H'.S a = none ∨ H'.S a = H.S a) ∧ (H'.I a = none ∨ H'.I a = H.I a) ∧
 (H'.C a = none ∨ H'.C a = H.C a) ∧ (H'.G a = none ∨ (H'.G a = H.G a ∧ H'.D a = H.D a))
noncomputable def zap (l' l : Loc) : Prop := ∀ (i : Nat) (X : V), l'[i]? = some (some X) -> l[i]? = some (some X)
theorem zap.refl (l : Loc) : zap l l := fun J J h => h
theorem Hp.Sub.refl (H : Hp) : H.Sub H := fun J => ⟨.inr rfl, .inr rfl, .inr rfl, .inr rfl, .inr rfl, .inr rfl, .inr ⟨rfl, rfl⟩⟩
theorem zmx {α : Type} {x y : Option α} (h : x = none ∨ x = y) (o : x ≠ none) : y ≠ none := h.elim (fun h => absurd h o) fun h => h ▸ o
theorem Hp.Sub.own {H' H : Hp} (h : H'.Sub H) {a : Addr} (o : H'.Own a) : H.Own a :=
 have h := h a
 o.imp (zmx h.1) (.imp (zmx h.2.1) (.imp (zmx h.2.2.1) (.imp (zmx h.2.2.2.1) (.imp (zmx h.2.2.2.2.1) (zmx h.2.2.2.2.2.1)))))
theorem zfr {α : Type} {x y : Option α} (h : x = none ∨ x = y) {a : α} (e : x = some a) : y = some a := by
 rcases h with h | h
 ·rw [h] at e; cases e
 ·rw [← h]; exact e
theorem zas.weak {c : Base} {B : Keep} {h : Heap} {H' H : Hp} {a : Addr} (hs : H'.Sub H) (x : zas c B h H a) : zas c B h H' a := by
 obtain ⟨h1, h2, h3, h4, h5, h6, h7⟩ := hs a
 refine ⟨fun o => x.out (hs.own o), fun y e => x.l y (zfr h1 e), fun y e => x.d y (zfr h2 e), fun y e => x.p y (zfr h3 e), fun y e => x.s y (zfr h4 e), fun y e => x.i y (zfr h5 e), fun y e => x.c y (zfr h6 e), fun e => ?_, fun ep e => ?_⟩
 ·have : H.D a ≠ none := by
   rcases h2 with h2 | h2
   ·exact absurd h2 e
   ·rw [← h2]; exact e
  have hp := x.dp this
  rcases h3 with h3 | h3
  ·exact h3
  ·rw [h3]; exact hp
 ·rcases h7 with h7 | ⟨h7, h8⟩
  ·rw [h7] at e; cases e
  ·rw [h7] at e
   rw [h8]; exact x.g ep e
theorem Rel.weak {c : Base} {L : Addr} {nm : List (Str × NameKind)} {B : Keep} {loc loc' : Loc} {H H' : Hp} {s : Shared} (R : Rel c L nm B loc H s) (hs : H'.Sub H) (hl : zap loc' loc) : Rel c L nm B loc' H' s where
 keep := R.keep
 based := R.based
 own := fun a => (R.own a).weak hs
 lB := R.lB
 lH := fun o => R.lH (hs.own o)
 ns := let ⟨m, n, l⟩ := R.ns; ⟨m, n, fun x i X a b => l x i X a (hl _ _ b)⟩
 gens := R.gens
 os := R.os
 lim := R.lim
 sv := fun p hp => let ⟨x1, x2, x3, x4⟩ := R.sv p hp; ⟨x1, x2, fun o => x3 (hs.own o), x4⟩
theorem Post.weak {F : Fx} {α β : Type} {ρ : Keep -> α -> β -> Prop} {B : Keep} {Q Q' : β -> Loc -> Hp -> Prop} {a : α} {s : Shared} (p : Post F ρ B Q' a s) (h : ∀ b l H, Q' b l H -> ∃ l' H', zap l' l ∧ H'.Sub H ∧ Q b l' H') : Post F ρ B Q a s := by
 obtain ⟨B', b, l, H, x1, x2, x3, x4⟩ := p
 obtain ⟨l', H', y1, y2, y3⟩ := h _ _ _ x4
 exact ⟨B', b, l', H', x1, x2, x3.weak y2 y1, y3⟩
theorem PW.weak {F : Fx} {α β : Type} {t : Sem α} {ρ : Keep -> α -> β -> Prop} {B : Keep} {s : Shared} {Q Q' : β -> Loc -> Hp -> Prop} (p : PW F t ρ B s Q') (h : ∀ b l H, Q' b l H -> ∃ l' H', zap l' l ∧ H'.Sub H ∧ Q b l' H') : PW F t ρ B s Q :=
 wpAny_mono p (fun J J x => x.weak h) fun J J x => x
theorem znx {H : Hp} {a : Addr} : Hp.Sub (H.uL a) H := fun b => by
 refine ⟨?_, .inr rfl, .inr rfl, .inr rfl, .inr rfl, .inr rfl, .inr ⟨rfl, rfl⟩⟩
 by_cases e : b = a
 ·subst e; simp
 ·exact .inr (zhm e)
theorem zpr {H : Hp} {a d : Addr} (hG : H.G d = none) : Hp.Sub ((H.uI a).uD d) H := fun b => by
 refine ⟨.inr rfl, ?_, .inr rfl, .inr rfl, ?_, .inr rfl, ?_⟩
 ·by_cases e : b = d
  ·subst e; simp
  ·exact .inr (zhm e)
 ·by_cases e : b = a
  ·subst e; simp
  ·exact .inr (zhm e)
 ·by_cases e : b = d
  ·subst e; exact .inl hG
  ·exact .inr ⟨rfl, zhm e⟩
section
variable {c : Base} {L : Addr} {nm : List (Str × NameKind)} {B : Keep} {loc : Loc} {H : Hp} {s : Shared}
theorem Rel.take (R : Rel c L nm B loc H s) {a : Addr} {o : Obj} (ha : s.heap.get? a = some o) (hB : B a = none) (hO : ¬ H.Own a) (hL : a ≠ L) (hS : ∀ p ∈ c.saved, p.1 ≠ a) :
  Rel c L nm (addB B a o) loc H s ∧ Le B (addB B a o) := by
 have hle := zic (o := o) hB
 refine ⟨⟨fun b p e => ?_, ⟨R.based.1, R.based.2.trans hle⟩, fun b => (R.own b).mono hle (fun J e => e) fun h => ?_, ?_, R.lH, ?_, R.gens, R.os, R.lim, ?_⟩, hle⟩
 ·unfold addB at e
  split at e
  ·rename_i z; subst z; cases e; exact ha
  ·exact R.keep _ _ e
 ·unfold addB
  split
  ·rename_i z; subst z; exact absurd h hO
  ·exact ((R.own b).out h).1
 ·unfold addB
  rw [if_neg (Ne.symm hL)]; exact R.lB
 ·obtain ⟨m, n, l⟩ := R.ns
  exact ⟨m, n, l.mono hle⟩
 ·intro p hp
  obtain ⟨x1, x2, x3⟩ := R.sv p hp
  refine ⟨x1, ?_, x3⟩
  unfold addB
  rw [if_neg (hS p hp)]; exact x2
theorem Rel.freezeL (R : Rel c L nm B loc H s) {a : Addr} {xs : List V} (e : H.L a = some xs) : ∃ B', Le B B' ∧ Rel c L nm B' loc (H.uL a) s ∧ RelV B' (.ref a) (.list xs) := by
 obtain ⟨items, n, hl, hr⟩ := (R.own a).l xs e
 have hw : H.Own a := .inl (zcc e)
 have y := (R.own a).noL e
 have R1 := R.weak (znx (a := a)) (zap.refl _)
 have hno : ¬ Hp.Own (H.uL a) a := zgi (zgy _ _) y.1 y.2.1 y.2.2.1 y.2.2.2.1 y.2.2.2.2.1
 obtain ⟨R2, le⟩ := R1.take hl ((R.own a).out hw).1 hno (R.own_ne_L hw) (fun p hp z => (R.sv p hp).2.2.1 (z ▸ hw))
 exact ⟨_, le, R2, .list (items := items) (n := n) (by simp [addB]) (hr.mono le)⟩
theorem zps {prog : Program} {w : World} {od : Obj} {es : Array DictEntry} {ep : Nat} {cs : List (Str × Value)} (hd : od.data = .dict es ep) (hk : KeysOf (PySem.strKind prog w) es) (hp : Pairs (PySem.strKind prog w) es.toList cs) (hn : (cs.map (·.1)).Nodup) {fs : List (Str × V)} (h : za6 B cs fs) :
  zea B od fs := by
 have gen : ∀ (cs' : List (Str × Value)) (fs' : List (Str × V)), za6 B cs' fs' -> (∀ p ∈ cs', lookIn p.1 od = some (some p.2)) -> zea B od fs' := by
  intro cs' fs' h
  induction h with
  | nil => intro _; exact .nil
  | cons r t ih => intro hh; exact .cons (hh _ (.head _)) r (ih fun p hp => hh p (.tail _ hp))
 refine gen cs fs h fun p hp' => ?_
 rw [zd0 hd hk hp]
 have : ∀ cs : List (Str × Value), (cs.map (·.1)).Nodup -> p ∈ cs -> valueAt cs p.1 = some p.2 := by
  intro cs
  induction cs with
  | nil => intro _ h; cases h
  | cons q r ih =>
   intro hn hp
   rw [List.map_cons, List.nodup_cons] at hn
   unfold valueAt at ih ⊢
   rw [List.find?_cons]
   cases hp with
   | head _ => simp
   | tail _ hp =>
    have : ¬ q.1 = p.1 := fun e => hn.1 (List.mem_map.mpr ⟨_, hp, e.symm⟩)
    simp only [this, decide_false]
    exact ih hn.2 hp
 rw [this cs hn hp']
theorem Rel.freezeI (R : Rel c L nm B loc H s) {a C d : Addr} {fs : List (Str × V)} (eI : H.I a = some (C, d)) (eD : H.D d = some fs) (eG : H.G d = none) :
  ∃ B', Le B B' ∧ Rel c L nm B' loc ((H.uI a).uD d) s ∧ RelV B' (.ref a) (.inst C fs) := by
 have hi := (R.own a).i _ eI
 obtain ⟨_, cs, ⟨od, es, ep, h1, h2, h3, h4, h5, h6⟩, h7⟩ := (R.own d).d fs eD
 have wa : H.Own a := .inr (.inr (.inr (.inr (.inl (zcc eI)))))
 have wd : H.Own d := .inr (.inl (zcc eD))
 have y := (R.own a).noI eI
 have z := (R.own d).noD eD eG
 have hne : a ≠ d := fun h => zcc eI (h ▸ z.2.2.2.1)
 have R1 := R.weak (zpr (a := a) eG) (zap.refl _)
 have hna : ¬ Hp.Own ((H.uI a).uD d) a := zgi y.1 ((zhm hne).trans y.2.1) y.2.2.1 y.2.2.2.1 (zgy _ _) y.2.2.2.2.1
 have hnd : ¬ Hp.Own ((H.uI a).uD d) d := zgi z.1 (zgy _ _) z.2.1 z.2.2.1 ((zhm (Ne.symm hne)).trans z.2.2.2.1) z.2.2.2.2.1
 obtain ⟨R2, le2⟩ := R1.take hi ((R.own a).out wa).1 hna (R.own_ne_L wa) (fun p hp z => (R.sv p hp).2.2.1 (z ▸ wa))
 obtain ⟨R3, le3⟩ := R2.take h1 (by unfold addB; rw [if_neg (Ne.symm hne)]; exact ((R.own d).out wd).1) hnd (R.own_ne_L wd) (fun p hp z => (R.sv p hp).2.2.1 (z ▸ wd))
 refine ⟨_, le2.trans le3, R3, .inst (d := d) (o := od) (le3 _ _ (by simp [addB])) (by simp [addB]) h3 (zps h3 h4 h5 h6 (h7.mono (le2.trans le3)))⟩
theorem Rel.turnIt (R : Rel c L nm B loc H s) {a : Addr} {o o' : Obj} {fl} (hB : B a = some o) (hd : o.data = .fields fl) (hb : c.lo a = none) {s' : Shared} (hk : ∀ b o, b ≠ a -> s.heap.get? b = some o -> s'.heap.get? b = some o) (ha : s'.heap.get? a = some o')
  (hg : s'.gens = s.gens) (ho : s'.os = s.os) : Rel c L nm (addB (za4 B a) a o') loc H s' :=
 ((R.dropIt hB hd hb hk hg ho).take ha (by simp [za4]) (fun w => by rw [((R.own a).out w).1] at hB; cases hB) (by rintro rfl; rw [R.lB] at hB; cases hB)
  (fun p hp z => by have := (R.sv p hp).2.1; rw [z, hB] at this; cases this)).1
end
theorem zbz {B0 B : Keep} {a : Addr} (h : Le B0 B) (h0 : B0 a = none) : Le B0 (za4 B a) := fun b p e => by
 rw [zbx]; exact h _ _ e
 rintro rfl; rw [h0] at e; cases e
theorem zim {B0 B : Keep} {a : Addr} {o : Obj} (h : Le B0 B) (h0 : B0 a = none) : Le B0 (addB (za4 B a) a o) := (zbz h h0).trans (zic (by simp [za4]))
theorem RelV.turn {B : Keep} {a : Addr} {o o' : Obj} {fl} (hB : B a = some o) (hd : o.data = .fields fl) {v : Value} {x : V} (r : RelV B v x) : RelV (addB (za4 B a) a o') v x := (r.drop hB hd).mono (zic (by simp [za4]))
section
variable {F : Fx} {n : Nat} {loc : Loc} {H : Hp}
inductive Frz : V -> Hp -> V -> Hp -> Prop
 | list {a xs H} : H.L a = some xs -> Frz (.ref a) H (.list xs) (H.uL a)
 | inst {a C d fs H} : H.I a = some (C, d) -> H.D d = some fs -> H.G d = none -> Frz (.ref a) H (.inst C fs) ((H.uI a).uD d)
theorem Rel.frz {c : Base} {L : Addr} {nm : List (Str × NameKind)} {B : Keep} {loc : Loc} {H H' : Hp} {s : Shared} {X X' : V} (R : Rel c L nm B loc H s) (f : Frz X H X' H') : ∃ B' a, X = .ref a ∧ Le B B' ∧ Rel c L nm B' loc H' s ∧ RelV B' (.ref a) X' := by
 cases f with
 | list e => obtain ⟨B', x1, x2, x3⟩ := R.freezeL e; exact ⟨B', _, rfl, x1, x2, x3⟩
 | inst e1 e2 e3 => obtain ⟨B', x1, x2, x3⟩ := R.freezeI e1 e2 e3; exact ⟨B', _, rfl, x1, x2, x3⟩
theorem Post.frz {B : Keep} {Q : V -> Loc -> Hp -> Prop} {v : Value} {s : Shared} (p : Post F RelV B (fun X l H => ∃ X' H', Frz X H X' H' ∧ Q X' l H') v s) : Post F RelV B Q v s := by
 obtain ⟨B1, X, l, H, le, r, R, X', H', f, q⟩ := p
 obtain ⟨B2, a, rfl, le2, R2, r2⟩ := R.frz f
 obtain rfl := r.rI
 exact ⟨B2, X', l, H', le.trans le2, r2, R2, q⟩
theorem zlx {e : Expr} {Q : V -> Loc -> Hp -> Prop} (h : WE F e loc H fun X l H => ∃ X' H', Frz X H X' H' ∧ Q X' l H') : WE F e loc H Q := fun B s R => wpAny_mono (h B s R) (fun J J p => p.frz) fun J J x => x
theorem zed {f : V} {Xs : List V} {Q : V -> Loc -> Hp -> Prop} (h : Call F f Xs loc H fun X l H => ∃ X' H', Frz X H X' H' ∧ Q X' l H') : Call F f Xs loc H Q := fun B s v vs R r rs => wpAny_mono (h B s v vs R r rs) (fun J J p => p.frz) fun J J x => x
theorem zin {e : Expr} {Q Q' : V -> Loc -> Hp -> Prop} (h : WE F e loc H Q') (k : ∀ b l H, Q' b l H -> ∃ l' H', zap l' l ∧ H'.Sub H ∧ Q b l' H') : WE F e loc H Q := fun B s R => (h B s R).weak k
theorem zb8 {e : List Stmt} {loc' : Loc} {H' : Hp} {Q : Fl -> Loc -> Hp -> Prop} (h : WSs F e loc' H' Q) (h1 : zap loc' loc) (h2 : H'.Sub H) : WSs F e loc H Q := fun B s R => h B s (R.weak h2 h1)
theorem zrw {e : List Stmt} {i : Nat} {X X' : V} {H' : Hp} {Q : Fl -> Loc -> Hp -> Prop} (hl : loc[i]? = some (some X)) (f : Frz X H X' H') (h : WSs F e (loc.set i (some X')) H' Q) : WSs F e loc H Q := fun B s R => by
 obtain ⟨B', a, rfl, le, R', r⟩ := R.frz f
 obtain ⟨m, hm, hlm⟩ := R'.ns
 have R2 : FRel F B' (loc.set i (some X')) H' s := ⟨R'.keep, R'.based, R'.own, R'.lB, R'.lH, ⟨m, hm, fun x j Y hx hj => by
  by_cases e : j = i
  ·subst e
   have hlt : j < loc.length := (List.getElem?_eq_some_iff.mp hl).1
   rw [List.getElem?_set_self hlt] at hj
   cases hj
   obtain ⟨v, h1, h2⟩ := hlm x j _ hx hl
   obtain rfl := h2.rI
   exact ⟨_, h1, r⟩
  ·rw [List.getElem?_set_ne (Ne.symm e)] at hj
   exact hlm x j Y hx hj⟩, R'.gens, R'.os, R'.lim, R'.sv⟩
 exact PW.lift le (h B' s R2)
end
noncomputable abbrev Fx.inl (F : Fx) : Fx := { F with E := notedBy F.M F.A F.env (cameBackBy F.M F.A F.env F.E) }
theorem Ok.inl {F : Fx} {n : Nat} (ok : Ok F n) : Ok F.inl n := ⟨ok.fn, ok.glob, ok.bi, ok.dbg, ok.units, ok.depth, ok.handled, ok.fr⟩
noncomputable abbrev ItS := Keep -> Keep -> Addr -> Prop
noncomputable def zdi (St : ItS) : Prop := ∀ B0 B B' it, Le B B' -> St B0 B it -> St B0 B' it
noncomputable def Tr (B B' : Keep) : Prop := ∀ v X, RelV B v X -> RelV B' v X
theorem Tr.of {B B' : Keep} (h : Le B B') : Tr B B' := fun J J r => r.mono h
theorem Tr.trans {B B' B'' : Keep} (h : Tr B B') (k : Tr B' B'') : Tr B B'' := fun v X r => k v X (h v X r)
theorem zdh.tr {B B' : Keep} (h : Tr B B') {nm loc m} (x : zdh B nm loc m) : zdh B' nm loc m := fun y i X a b => let ⟨v, e, r⟩ := x y i X a b; ⟨v, e, h _ _ r⟩
noncomputable def Nxt (F : Fx) (target : Expr) (St : ItS) (H : Hp) (r : Option (V × ItS)) : Prop :=
 ∀ (E : Value -> Shared -> Prop) B0 B s it loc (N : Shared -> Prop) (Y : Value -> Shared -> Prop), FRel F B loc H s -> Le B0 B -> St B0 B it →
  (∀ B' s', r = none -> Le B0 B' -> Tr B B' -> FRel F B' loc H s' -> N s') →
  (∀ X St' B' v s', r = some (X, St') -> Le B0 B' -> Tr B B' -> FRel F B' loc H s' -> St' B0 B' it -> RelV B' v X -> Y v s') →
  wpAny F.M F.A (pyNext (.ref it)) (fun r s1 => match r with | none => N s1 | some v => wpAny F.M F.A (letOwnedTupleGo target (.ref it) v) (fun J s1' => Y v s1') E s1) E s
noncomputable def zpd (J : Loc -> Hp -> Prop) (Q : Fl -> Loc -> Hp -> Prop) : Fl -> Loc -> Hp -> Prop
 | .next => J
 | .cont => J
 | .brk => Q .next
 | .ret x => Q (.ret x)
inductive zqz (F : Fx) (target : Expr) (body orelse : List Stmt) (Q : Fl -> Loc -> Hp -> Prop) (St : Nat -> ItS) (l : Loc) (H : Hp) : Prop
 | mk (mono : ∀ i, zdi (St i)) (N : Nat) (Inv : Nat -> Loc -> Hp -> Prop) (h0 : Inv 0 l H)
  (hitem : ∀ i l H, i < N -> Inv i l H -> ∃ X, Nxt F target (St i) H (some (X, St (i + 1))) ∧ WA F.inl target X l H fun l1 H1 => WSs F.inl body l1 H1 (zpd (Inv (i + 1)) Q))
  (hend : ∀ l H, Inv N l H -> Nxt F target (St N) H none ∧ WSs F.inl orelse l H Q)
inductive ItR (F : Fx) (B : Keep) (Q : (Nat -> ItS) -> Loc -> Hp -> Prop) (it : Value) (s2 : Shared) : Prop
 | mk (B' : Keep) (a : Addr) (l : Loc) (H' : Hp) (St : Nat -> ItS) (e : it = .ref a) (le : Le B B') (R : FRel F B' l H' s2) (st : St 0 B B' a) (q : Q St l H')
noncomputable def WIt (F : Fx) (iter : Expr) (loc : Loc) (H : Hp) (Q : (Nat -> ItS) -> Loc -> Hp -> Prop) : Prop := ∀ B s, FRel F B loc H s →
 wpAny F.M F.A (eval iter F.env) (fun x s1 => wpAny F.M F.A (pyIter x) (ItR F B Q) F.E s1) F.E s
section
variable {F : Fx} {n : Nat} {loc : Loc} {H : Hp}
theorem zny {M : Model} {A : Around} {R : Result -> Shared -> Prop} {target : Expr} {it : Value} {body orelse : List Stmt} {env : Env} {E2 : Value -> Shared -> Prop} (I : Nat -> Shared -> Prop) (hM : ∃ prog w, M = model prog w) (hE : notedBy M A env (fun e s' => R (.error e) s') = E2)
  (turn : ∀ n s, I n s -> wpAny M A (pyNext it) (fun r s1 => match r with
   | none => wpAny M A (execs orelse env) (fun f s3 => R (.ok f) s3) E2 s1
   | some v => wpAny M A (letOwnedTupleGo target it v) (fun J s1' => wpAny M A (assign target env v) (fun J s2 => wpAny M A (execs body env) (fun f s3 => match f with
      | .next | .cont => ∃ m, m < n ∧ I m s3
      | .brk => R (.ok .next) s3
      | .ret v => R (.ok (.ret v)) s3) E2 s2) E2 s1') E2 s1) E2 s)
  (n : Nat) {s : Shared} (h : I n s) : codeAny M A (.forLoop target it body orelse env) R s := by
 subst hE
 obtain ⟨prog, w, rfl⟩ := hM
 exact codeAny_forLoop_any I turn n h
inductive FI (F : Fx) (B : Keep) (St : Nat -> ItS) (Inv : Nat -> Loc -> Hp -> Prop) (N : Nat) (a : Addr) (k : Nat) (s' : Shared) : Prop
 | mk (i : Nat) (l : Loc) (H' : Hp) (B' : Keep) (hk : i + k = N) (hi : Inv i l H') (le : Le B B') (R : FRel F B' l H' s') (st : St i B B' a)
theorem zrx {target : Expr} {orelse : List Stmt} {Q : Fl -> Loc -> Hp -> Prop} {B B' : Keep} {a : Addr} {l : Loc} {St : ItS} {s : Shared} {Y : Value -> Shared -> Prop} {Z : Flow -> Shared -> Prop} (hZ : ∀ f s', Post F RelF B Q f s' -> Z f s')
  (hn : Nxt F target St H none) (ho : WSs F orelse l H Q) (le : Le B B') (R : FRel F B' l H s) (st : St B B' a) : wpAny F.M F.A (pyNext (.ref a)) (fun r s1 => match r with
   | none => wpAny F.M F.A (execs orelse F.env) Z F.E s1
   | some v => wpAny F.M F.A (letOwnedTupleGo target (.ref a) v) (fun J s1' => Y v s1') F.E s1) F.E s :=
 hn _ B B' s a l _ _ R le st (fun B2 s2 J le2 J R2 => wpAny_mono (ho B2 s2 R2) (fun f s3 p => hZ f s3 (p.lift le2)) fun J J e => e) fun J J J J J e => by cases e
theorem zpt {target : Expr} {body : List Stmt} {X : V} {Q : Fl -> Loc -> Hp -> Prop} {B B' : Keep} {a : Addr} {l : Loc} {S1 S2 : ItS} {s : Shared} {N : Shared -> Prop} {Z : Flow -> Shared -> Prop}
  (hZ : ∀ f s4 B2 B4 fl l4 H4, Le B B2 -> Le B2 B4 -> S2 B B2 a -> RelF B4 f fl -> FRel F B4 l4 H4 s4 -> Q fl l4 H4 -> Z f s4)
  (hn : Nxt F target S1 H (some (X, S2))) (ha : WA F target X l H fun l1 H1 => WSs F body l1 H1 Q) (le : Le B B') (R : FRel F B' l H s) (st : S1 B B' a) : wpAny F.M F.A (pyNext (.ref a)) (fun r s1 => match r with
   | none => N s1
   | some v => wpAny F.M F.A (letOwnedTupleGo target (.ref a) v) (fun J s1' => wpAny F.M F.A (assign target F.env v) (fun J s2 => wpAny F.M F.A (execs body F.env) Z F.E s2) F.E s1') F.E s1) F.E s := by
 refine hn _ B B' s a l _ (fun v s1' => wpAny F.M F.A (assign target F.env v) (fun J s2 => wpAny F.M F.A (execs body F.env) Z F.E s2) F.E s1') R le st (fun J J e => by cases e) fun X' St' B2 v s2 e le2 J R2 st2 rv => ?_
 injection e with e
 injection e with e1 e2
 subst e1 e2
 exact (ha B2 s2 v R2 rv).then fun J B3 J l3 H3 s3 le3 J R3 hb => (hb B3 s3 R3).then fun f B4 fl l4 H4 s4 le4 rf R4 q => hZ f s4 B2 B4 fl l4 H4 le2 (le3.trans le4) st2 rf R4 q
theorem zry {target : Expr} {body orelse : List Stmt} {Q : Fl -> Loc -> Hp -> Prop} {B B' : Keep} {a : Addr} {l : Loc} {St : Nat -> ItS} {N : Nat} {Inv : Nat -> Loc -> Hp -> Prop} {RR : Result -> Shared -> Prop} {s : Shared} (hE : notedBy F.M F.A F.env (fun e s' => RR (.error e) s') = F.E) (hR : ∀ f s', Post F RelF B Q f s' -> RR (.ok f) s') (mono : ∀ i, zdi (St i)) (h0 : Inv 0 l H)
  (hitem : ∀ i l H, i < N -> Inv i l H -> ∃ X, Nxt F target (St i) H (some (X, St (i + 1))) ∧ WA F target X l H fun l1 H1 => WSs F body l1 H1 (zpd (Inv (i + 1)) Q)) (hend : ∀ l H, Inv N l H -> Nxt F target (St N) H none ∧ WSs F orelse l H Q) (le : Le B B') (R : FRel F B' l H s) (st : St 0 B B' a) : codeAny F.M F.A (.forLoop target (.ref a) body orelse F.env) RR s := by
 refine zny (FI F B St Inv N a) ⟨_, _, rfl⟩ hE ?_ N ⟨0, l, H, B', Nat.zero_add _, h0, le, R, st⟩
 rintro k s' ⟨i, l, H', B', hk, hi, le, R', st⟩
 cases k with
 | zero => subst hk; exact zrx hR (hend l H' hi).1 (hend l H' hi).2 le R' st
 | succ k =>
  obtain ⟨X, hn, ha⟩ := hitem i l H' (hk ▸ Nat.lt_add_of_pos_right (Nat.succ_pos k)) hi
  refine zpt (fun f s4 B2 B4 fl l4 H4 le2 le4 st2 rf R4 q => ?_) hn ha le R' st
  have le5 := le2.trans le4
  have go : Inv (i + 1) l4 H4 -> ∃ m, m < k + 1 ∧ FI F B St Inv N a m s4 := fun q => ⟨k, Nat.lt_succ_self k, i + 1, l4, H4, B4, by rw [← hk]; lia, q, le5, R4, mono _ _ _ _ _ le4 st2⟩
  cases rf with
  | next => exact go q
  | cont => exact go q
  | brk => exact hR _ _ ((Post.pure (F := F) (Q := Q) (b := Fl.next) RelF.next R4 q).lift le5)
  | ret r => exact hR _ _ ((Post.pure (F := F) (Q := Q) (b := Fl.ret _) (RelF.ret r) R4 q).lift le5)
theorem zbn {target iter : Expr} {body orelse : List Stmt} {pos : Pos} {Q : Fl -> Loc -> Hp -> Prop} (h : WIt F iter loc H fun St l H => zqz F target body orelse Q St l H)
  (hs : ∀ x, foldedSetIterable iter F.env x = pure x := by intro _; rfl) : WS F (.For target iter body orelse pos) loc H Q := fun B s R => by
 refine wpAny_For (wpAny_mono (h B s R) (fun x s1 h1 => wpAny_mono h1 (fun it s2 h2 => ?_) fun J J e => e) fun J J e => e) hs
 obtain ⟨B', a, l, H', St, rfl, le, R', st, ⟨mono, N, Inv, h0, hitem, hend⟩⟩ := h2
 exact zry (F := F.inl) rfl (fun J J h => h) mono h0 hitem hend le R' st
theorem zly {test : Expr} {body orelse : List Stmt} {pos : Pos} {Q : Fl -> Loc -> Hp -> Prop} (Inv : Nat -> Loc -> Hp -> Prop) (k : Nat) (h0 : Inv k loc H)
  (h : ∀ k l H, Inv k l H -> WB F.inl test l H fun b l1 H1 => (b = true -> WSs F.inl body l1 H1 (zpd (fun l H => ∃ k', k' < k ∧ Inv k' l H) Q)) ∧ (b = false -> WSs F.inl orelse l1 H1 Q)) :
  WS F (.While test body orelse pos) loc H Q := fun B s R => by
 refine wpAny_While (codeAny_whileLoop (fun k s' => ∃ l H' B', Inv k l H' ∧ Le B B' ∧ FRel F B' l H' s') ?_ k ⟨loc, H, B, h0, Le.refl _, R⟩)
 rintro k s' ⟨l, H', B', hi, le, R'⟩
 refine (h k l H' hi B' s' R').then fun b B1 b' l1 H1 s1 le1 e R1 q => ?_
 subst e
 have le1 := le.trans le1
 cases b with
 | false => exact wpAny_mono (q.2 rfl B1 s1 R1) (fun f s3 p => p.lift le1) fun J J e => e
 | true =>
  refine (q.1 rfl B1 s1 R1).then fun f B4 fl l4 H4 s4 le4 rf R4 q => ?_
  have le5 := le1.trans le4
  cases rf with
  | next => obtain ⟨k', hk, hi⟩ := q; exact ⟨k', hk, l4, H4, B4, hi, le5, R4⟩
  | cont => obtain ⟨k', hk, hi⟩ := q; exact ⟨k', hk, l4, H4, B4, hi, le5, R4⟩
  | brk => exact (Post.pure (F := F) (Q := Q) (b := Fl.next) RelF.next R4 q).lift le5
  | ret r => exact (Post.pure (F := F) (Q := Q) (b := Fl.ret _) (RelF.ret r) R4 q).lift le5
theorem zbo {B1 : Keep} (h1 : Le F.c.lo B1) {a : Addr} (h : B1 a = none) : F.c.lo a = none := by
 cases e : F.c.lo a with
 | none => rfl
 | some o => rw [h1 _ _ e] at h; cases h
noncomputable def zke (hb : Keep) (X : V) (i : Nat) : ItS := fun B0 B it => B0 it = none ∧ hb it = none ∧ ∃ l o, RelV B (.ref l) X ∧ B it = some o ∧ o.cls = .type "list_iterator" ∧ o.data = .fields #[.ref l, .int i 0]
theorem zau {hb : Keep} {X : V} (i : Nat) : zdi (zke hb X i) := fun B0 B B' it le hq => by
 obtain ⟨h0, hb, l, o, h1, h2, h3⟩ := hq
 exact ⟨h0, hb, l, o, h1.mono le, le _ _ h2, h3⟩
theorem zio {l : Addr} {B : Keep} {s : Shared} (R : FRel F B loc H s) {X : V} {xs : List V} (r : RelV B (.ref l) X) (e : asL H X = some xs) : ∃ items m, IsL s.heap l items m ∧ zad B items.toList xs := by
 obtain ⟨a, items, m, h1, h2, h3⟩ := zcb R r e
 cases h1; exact ⟨_, _, h2, h3⟩
theorem zbh {target : Expr} {X x : V} {xs : List V} {i : Nat} (e : asL H X = some xs) (hx : xs[i]? = some x) : Nxt F target (zke F.c.lo X i) H (some (x, zke F.c.lo X (i + 1))) := fun E B0 B s it loc N Y R le hq J hY => by
 obtain ⟨h0, hb, l, o, h1, h2, h3, h4⟩ := hq
 obtain ⟨items, m, hl, hr⟩ := zio R h1 e
 obtain ⟨v, e1, rv⟩ := hr.get hx
 have hit : s.heap.IsListIter it l i := ⟨o, R.keep _ _ h2, h3, h4⟩
 refine wpAny_pyNext_list_item hit hl.isList (x := v) (by simpa using e1) fun h' hit' hs' => ?_
 obtain ⟨o', ho', hc', hd'⟩ := id hit'
 refine letGo_listiter (s' := { s with heap := h' }) hit' (hY _ _ (addB (za4 B it) it o') v _ rfl (zim le h0) (fun J J r => r.turn h2 h4) (R.turnIt h2 h4 hb (fun b p hne q => (hs'.2 b hne).trans q) ho' rfl rfl) ⟨h0, hb, l, o', ?_, by simp [addB], hc', hd'⟩ (rv.turn h2 h4))
 exact h1.turn h2 h4
theorem zan {target : Expr} {X : V} {xs : List V} {i : Nat} (hh : F.A.handled = none) (e : asL H X = some xs) (hx : xs.length ≤ i) : Nxt F target (zke F.c.lo X i) H none := fun E B0 B s it loc N Y R le hq hN J => by
 obtain ⟨h0, hb, l, o, h1, h2, h3, h4⟩ := hq
 obtain ⟨items, m, hl, hr⟩ := zio R h1 e
 have hit : s.heap.IsListIter it l i := ⟨o, R.keep _ _ h2, h3, h4⟩
 have hlen := hr.length
 rw [Array.length_toList] at hlen
 refine wpAny_pyNext_list_end hh hit hl.isList (by rw [Array.getElem?_eq_none]; lia) fun h' hs' => ?_
 exact hN _ _ rfl (zbz le h0) (fun J J r => r.drop h2 h4) (R.dropIt h2 h4 hb (fun b p hne q => hs' b p hne q) rfl rfl)
theorem zcj {iter : Expr} {Q : (Nat -> ItS) -> Loc -> Hp -> Prop} (h : WE F iter loc H fun X l H => ∃ xs, asL H X = some xs ∧ Q (zke F.c.lo X) l H) : WIt F iter loc H Q := fun B s R =>
 (h B s R).then fun v B1 X l1 H1 s1 le1 rv R1 ⟨xs, e, q⟩ => by
  obtain ⟨a, items, m, rfl, hl, hr⟩ := zcb R1 rv e
  refine wpAny_pyIter_list hl.isList ?_
  have z := R1.hold (s' := { s1 with heap := s1.heap.push { cls := .type "list_iterator", data := .fields #[.ref a, .int 0 0] } }) (a := s1.heap.objs.size) (o := { cls := .type "list_iterator", data := .fields #[.ref a, .int 0 0] }) (Nat.le_refl _) (fun b o e => Heap.get?_push_of_some _ e) (Heap.get?_push_size _ rfl) rfl rfl
  have hn := (R1.fresh (Nat.le_refl _)).1
  have h1 := R1.fresh_B hn
  have h2 : B s1.heap.objs.size = none := by
   cases e : B s1.heap.objs.size with
   | none => rfl
   | some o => rw [le1 _ _ e] at h1; cases h1
  exact ⟨_, _, _, _, zke F.c.lo X, rfl, le1.trans z.2.1, z.1, ⟨h2, zbo R.based.2 h2, a, _, rv.mono z.2.1, z.2.2, rfl, rfl⟩, q⟩
noncomputable def znk (hb : Keep) (xs : List V) (i : Nat) : ItS := fun B0 B it => B0 it = none ∧ hb it = none ∧ ∃ t o, RelV B (.ref t) (.tup xs) ∧ B it = some o ∧ o.cls = .type "tuple_iterator" ∧ o.data = .fields #[.ref t, .int i 0]
theorem zee {hb : Keep} {xs : List V} (i : Nat) : zdi (znk hb xs i) := fun B0 B B' it le hq => by
 obtain ⟨h0, hb, l, o, h1, h2, h3⟩ := hq
 exact ⟨h0, hb, l, o, h1.mono le, le _ _ h2, h3⟩
theorem zlz {t : Addr} {B : Keep} {s : Shared} (R : FRel F B loc H s) {xs : List V} (r : RelV B (.ref t) (.tup xs)) : ∃ items m, s.heap.get? t = some (zd9 items m) ∧ s.heap.IsTuple t items ∧ zad B items.toList xs := by
 cases r with | tup hb hr => exact ⟨_, _, R.keep _ _ hb, ⟨_, R.keep _ _ hb, rfl, _, rfl⟩, hr⟩
theorem ziq {target : Expr} {x : V} {xs : List V} {i : Nat} (hx : xs[i]? = some x) : Nxt F target (znk F.c.lo xs i) H (some (x, znk F.c.lo xs (i + 1))) := fun E B0 B s it loc N Y R le hq J hY => by
 obtain ⟨h0, hb, l, o, h1, h2, h3, h4⟩ := hq
 obtain ⟨items, m, _, hl, hr⟩ := zlz R h1
 obtain ⟨v, e1, rv⟩ := hr.get hx
 have hit : s.heap.IsTupleIter it l i := ⟨o, R.keep _ _ h2, h3, h4⟩
 refine wpAny_pyNext_tuple_item hit hl (x := v) (by simpa using e1) fun h' hit' hs' => ?_
 obtain ⟨o', ho', hc', hd'⟩ := id hit'
 refine letGo_tupleiter (s' := { s with heap := h' }) hit' (hY _ _ (addB (za4 B it) it o') v _ rfl (zim le h0) (fun J J r => r.turn h2 h4) (R.turnIt h2 h4 hb (fun b p hne q => (hs'.2 b hne).trans q) ho' rfl rfl) ⟨h0, hb, l, o', ?_, by simp [addB], hc', hd'⟩ (rv.turn h2 h4))
 exact h1.turn h2 h4
theorem zdm {target : Expr} {xs : List V} {i : Nat} (hh : F.A.handled = none) (hx : xs.length ≤ i) : Nxt F target (znk F.c.lo xs i) H none := fun E B0 B s it loc N Y R le hq hN J => by
 obtain ⟨h0, hb, l, o, h1, h2, h3, h4⟩ := hq
 obtain ⟨items, m, _, hl, hr⟩ := zlz R h1
 have hit : s.heap.IsTupleIter it l i := ⟨o, R.keep _ _ h2, h3, h4⟩
 have hlen := hr.length
 rw [Array.length_toList] at hlen
 refine wpAny_pyNext_tuple_end hh hit hl (by rw [Array.getElem?_eq_none]; lia) fun h' hs' => ?_
 exact hN _ _ rfl (zbz le h0) (fun J J r => r.drop h2 h4) (R.dropIt h2 h4 hb (fun b p hne q => hs' b p hne q) rfl rfl)
theorem zir {iter : Expr} {Q : (Nat -> ItS) -> Loc -> Hp -> Prop} (h : WE F iter loc H fun X l H => ∃ xs, X = .tup xs ∧ Q (znk F.c.lo xs) l H) : WIt F iter loc H Q := fun B s R =>
 (h B s R).then fun v B1 X l1 H1 s1 le1 rv R1 ⟨xs, e, q⟩ => by
  subst e
  obtain ⟨a, items, m, rfl, hb, hr⟩ := rv.tI
  refine wpAny_pyIter_tuple (items := items) ⟨_, R1.keep _ _ hb, rfl, _, rfl⟩ ?_
  have z := R1.hold (s' := { s1 with heap := s1.heap.push { cls := .type "tuple_iterator", data := .fields #[.ref a, .int 0 0] } }) (a := s1.heap.objs.size) (o := { cls := .type "tuple_iterator", data := .fields #[.ref a, .int 0 0] }) (Nat.le_refl _) (fun b o e => Heap.get?_push_of_some _ e) (Heap.get?_push_size _ rfl) rfl rfl
  have hn := (R1.fresh (Nat.le_refl _)).1
  have h1 := R1.fresh_B hn
  have h2 : B s1.heap.objs.size = none := by
   cases e : B s1.heap.objs.size with
   | none => rfl
   | some o => rw [le1 _ _ e] at h1; cases h1
  exact ⟨_, _, _, _, znk F.c.lo xs, rfl, le1.trans z.2.1, z.1, ⟨h2, zbo R.based.2 h2, a, _, (RelV.tup hb hr).mono z.2.1, z.2.2, rfl, rfl⟩, q⟩
noncomputable def zkf (hb : Keep) (n : Nat) (i : Nat) : ItS := fun B0 B it => B0 it = none ∧ hb it = none ∧ B it = some { cls := .type "range_iterator", dict := none, data := .fields #[rawInt (i : Int), rawInt ((n : Int) - i), rawInt 1], slots := #[] }
theorem zce {hb : Keep} {n : Nat} (i : Nat) : zdi (zkf hb n i) := fun B0 B B' it le hq => by
 obtain ⟨h0, hb, h1⟩ := hq
 exact ⟨h0, hb, le _ _ h1⟩
theorem zgz {E : Value -> Shared -> Prop} {s : Shared} {M : Model} {A : Around} {target : Expr} {I : Addr} {x left step : Int} {v : Value} {Q : Unit -> Shared -> Prop} (hit : IsRangeIter s.heap I x left step) (h : Q () s) : wpAny M A (letOwnedTupleGo target (.ref I) v) Q E s := by
 unfold letOwnedTupleGo
 cases target <;> first
  | exact wpAny_pure h
  | (cases v <;> first
    | exact wpAny_pure h
    | (refine wpAny_bind (wpAny_load hit ?_)
       exact wpAny_pure h))
theorem zew {target : Expr} {n i : Nat} (hi : i < n) : Nxt F target (zkf F.c.lo n i) H (some (.int i, zkf F.c.lo n (i + 1))) := fun E B0 B s it loc N Y R le hq J hY => by
 obtain ⟨h0, hb, h2⟩ := hq
 have hit : IsRangeIter s.heap it (i : Int) ((n : Int) - i) 1 := R.keep _ _ h2
 refine wpAny_pyNext_range_item hit (by lia) fun h' hit' hs' => ?_
 refine zgz (s := { s with heap := h', toks := s.toks + 1 }) hit' (hY _ _ (addB (za4 B it) it _) _ _ rfl (zim le h0) (fun J J r => r.turn h2 rfl) (R.turnIt (s' := { s with heap := h', toks := s.toks + 1 }) h2 rfl hb (fun b p hne q => (hs'.2 b hne).trans q) hit' rfl rfl) ⟨h0, hb, ?_⟩ (.int _ _))
 have e1 : ((i : Int) + 1) = ((i + 1 : Nat) : Int) := by lia
 have e2 : ((n : Int) - i - 1) = (n : Int) - (i + 1 : Nat) := by lia
 simp only [addB, if_true, e1, e2]
theorem zb0 {target : Expr} {n i : Nat} (hh : F.A.handled = none) (hi : n ≤ i) : Nxt F target (zkf F.c.lo n i) H none := fun E B0 B s it loc N Y R le hq hN J => by
 obtain ⟨h0, hb, h2⟩ := hq
 have hit : IsRangeIter s.heap it (i : Int) ((n : Int) - i) 1 := R.keep _ _ h2
 refine wpAny_pyNext_range_end hh hit (by lia) fun h' hs' => ?_
 exact hN _ _ rfl (zbz le h0) (fun J J r => r.drop h2 rfl) (R.dropIt h2 rfl hb (fun b p hne q => hs' b p hne q) rfl rfl)
end
section
variable {c : Base} {L : Addr} {nm : List (Str × NameKind)} {B : Keep} {loc : Loc} {H : Hp} {s : Shared}
theorem Rel.free (R : Rel c L nm B loc H s) {s' : Shared} (X : Addr -> Prop) (hX : ∀ a, X a -> B a = none ∧ ¬ H.Own a ∧ a ≠ L ∧ ∀ p ∈ c.saved, p.1 ≠ a) (hk : ∀ b o, ¬ X b -> s.heap.get? b = some o -> s'.heap.get? b = some o)
  (hg : s'.gens = s.gens) (ho : s'.os = s.os) : Rel c L nm B loc H s' where
 keep := fun b p e => hk _ _ (fun x => by rw [(hX b x).1] at e; cases e) (R.keep _ _ e)
 based := R.based
 own := fun b => by
  by_cases hw : H.Own b
  ·exact (R.own b).mono (Le.refl _) (fun p => hk b p fun x => (hX b x).2.1 hw) fun h => ((R.own b).out h).1
  ·obtain ⟨d1, d2, d3, d4, d5, d6⟩ := zbj hw
   refine ⟨fun h => absurd h hw, ?_, ?_, ?_, ?_, ?_, ?_, fun J => d3, fun ep e => ?_⟩
   ·intro y hy; rw [d1] at hy; cases hy
   ·intro y hy; rw [d2] at hy; cases hy
   ·intro y hy; rw [d3] at hy; cases hy
   ·intro y hy; rw [d4] at hy; cases hy
   ·intro y hy; rw [d5] at hy; cases hy
   ·intro y hy; rw [d6] at hy; cases hy
   ·exact absurd (.inr (.inl ((R.own b).g ep e).1)) hw
 lB := R.lB
 lH := R.lH
 ns := by
  obtain ⟨m, ⟨oL, es, ep, q, z⟩, l⟩ := R.ns
  exact ⟨m, ⟨oL, es, ep, hk _ _ (fun x => (hX L x).2.2.1 rfl) q, z⟩, l⟩
 gens := hg.trans R.gens
 os := ho.trans R.os
 lim := R.lim
 sv := fun p hp => by
  obtain ⟨⟨ob, x1, y1⟩, x2, x3, x4⟩ := R.sv p hp
  exact ⟨⟨ob, hk _ _ (fun x => (hX _ x).2.2.2 p hp rfl) x1, y1⟩, x2, x3, x4⟩
theorem Rel.nobody (R : Rel c L nm B loc H s) {a : Addr} (e : s.heap.get? a = none) : B a = none ∧ ¬ H.Own a ∧ a ≠ L ∧ ∀ p ∈ c.saved, p.1 ≠ a :=
 ⟨R.fresh_B e, R.fresh_H e, R.fresh_L e, fun p hp z => by obtain ⟨o, h1, _⟩ := (R.sv p hp).1; rw [z, e] at h1; cases h1⟩
theorem Rel.kept (R : Rel c L nm B loc H s) {a : Addr} {o : Obj} (e : B a = some o) : ¬ H.Own a ∧ a ≠ L ∧ ∀ p ∈ c.saved, p.1 ≠ a :=
 ⟨(fun w => by rw [((R.own a).out w).1] at e; cases e), (by rintro rfl; rw [R.lB] at e; cases e), (fun p hp z => by have := (R.sv p hp).2.1; rw [z, e] at this; cases this)⟩
theorem Rel.know (R : Rel c L nm B loc H s) {d : Addr} {kvs : List (Str × V)} {o : Obj} {es ep} (e : H.D d = some kvs) (ho : s.heap.get? d = some o) (hd : o.data = .dict es ep) : Rel c L nm B loc (H.aG d ep) s where
 keep := R.keep
 based := R.based
 own := fun b => by
  refine ⟨(R.own b).out, (R.own b).l, (R.own b).d, (R.own b).p, (R.own b).s, (R.own b).i, (R.own b).c, (R.own b).dp, fun ep' h => ?_⟩
  by_cases hb : b = d
  ·subst hb
   simp only [zac, Option.some.injEq] at h
   subst h; exact ⟨by rw [e]; simp, _, _, ho, hd⟩
  ·simp only [zak hb] at h; exact (R.own b).g _ h
 lB := R.lB
 lH := R.lH
 ns := R.ns
 gens := R.gens
 os := R.os
 lim := R.lim
 sv := R.sv
end
section
variable {F : Fx} {n : Nat} {loc : Loc} {H : Hp}
theorem zd1 {x : Str} {np pos : Pos} {arg : Expr} {Q : (Nat -> ItS) -> Loc -> Hp -> Prop}
  (h : WE F (.Name x np) loc H fun f l1 H1 => f = .raw (.type "range") ∧ WEs F pos [arg] l1 H1 fun Xs l2 H2 => ∃ n : Nat, Xs = [.int n] ∧ n < 2 ^ 60 ∧ Q (zkf F.c.lo n) l2 H2)
  (hns : (backTo pos (starEach [arg] F.env)).any (·.1) = false := by rfl) : WIt F (.Call (.Name x np) [arg] [] pos) loc H Q := fun B s R => by
 refine wpAny_Call_ofName ((h B s R).then fun f B1 X l1 H1 s1 le1 rf R1 ⟨hX, h1⟩ => ?_)
 subst hX
 obtain rfl := rf.wI
 refine zbl hns (zbm hns ((h1 B1 s1 R1).then fun vs B2 Xs l2 H2 s2 le2 rv R2 ⟨n, hXs, hn, q⟩ => ?_))
 subst hXs
 obtain ⟨_, rfl, ra⟩ := rv.c1
 obtain ⟨t, rfl⟩ := ra.iI
 obtain ⟨k, hk⟩ := zdc (F := F) (loc := l2) (H := H2) (v := .type "range") (by intro a h; cases h) B2 s2 (.type "range") R2 (.raw _)
 refine ⟨⟨k, fun Q' q' => hk Q' q'⟩, ?_⟩
 refine call_range_1 ?_
 have R3 := R2.grow (s' := { s2 with heap := s2.heap.push { cls := .type "range", data := .fields #[.int 0 s2.toks, .int n t, .int 1 (s2.toks + 1)] }, toks := s2.toks + 1 + 1 }) (fun b o e => Heap.get?_push_of_some _ e) rfl rfl
 refine wpAny_pyIter_range (a := 0) (b := n) (c := 1) (t := s2.toks) (u := t) (v := s2.toks + 1) (Heap.get?_push_size _ rfl) (small_one (by decide) (by decide) (by lia) (by lia)) ?_
 have hsz : Builtin.Range.rangeSize 0 (n : Int) 1 = (n : Int) := by
  unfold Builtin.Range.rangeSize
  split <;> simp_all <;> lia
 rw [hsz]
 have z := R3.hold (s' := { ({ s2 with heap := s2.heap.push { cls := .type "range", data := .fields #[.int 0 s2.toks, .int n t, .int 1 (s2.toks + 1)] }, toks := s2.toks + 1 + 1 } : Shared) with heap := (s2.heap.push { cls := .type "range", data := .fields #[.int 0 s2.toks, .int n t, .int 1 (s2.toks + 1)] }).push { cls := .type "range_iterator", data := .fields #[rawInt 0, rawInt n, rawInt 1] } })
  (a := (s2.heap.push { cls := .type "range", data := .fields #[.int 0 s2.toks, .int n t, .int 1 (s2.toks + 1)] }).objs.size) (o := { cls := .type "range_iterator", data := .fields #[rawInt 0, rawInt n, rawInt 1] }) (Nat.le_refl _) (fun b o e => Heap.get?_push_of_some _ e) (Heap.get?_push_size _ rfl) rfl rfl
 have hf := R3.fresh_B (R3.fresh (Nat.le_refl _)).1
 have hB : B (s2.heap.push { cls := .type "range", data := .fields #[.int 0 s2.toks, .int n t, .int 1 (s2.toks + 1)] }).objs.size = none := by
  cases e : B (s2.heap.push { cls := .type "range", data := .fields #[.int 0 s2.toks, .int n t, .int 1 (s2.toks + 1)] }).objs.size with
  | none => rfl
  | some o => have := (le1.trans le2) _ _ e; rw [hf] at this; cases this
 refine ⟨_, _, l2, H2, zkf F.c.lo n, rfl, (le1.trans le2).trans z.2.1, z.1, ⟨hB, zbo R.based.2 hB, ?_⟩, q⟩
 simpa using z.2.2
noncomputable def zlk (hb : Keep) (d : Addr) (n ep : Nat) (i : Nat) : ItS := fun B0 B it => B0 it = none ∧ hb it = none ∧ ∃ o, B it = some o ∧ o.cls = .type "dict_keyiterator" ∧ o.data = .fields #[.ref d, .int i 0, .int n 0, .int ep 0]
theorem zef {hb : Keep} {d : Addr} {n ep : Nat} (i : Nat) : zdi (zlk hb d n ep i) := fun B0 B B' it le hq => by
 obtain ⟨h0, hb, o, h2, h3⟩ := hq
 exact ⟨h0, hb, o, le _ _ h2, h3⟩
theorem ze8 {B : Keep} {s : Shared} (R : FRel F B loc H s) {d : Addr} {kvs : List (Str × V)} {ep : Nat} (e : H.D d = some kvs) (eG : H.G d = some ep) : ∃ cs, s.heap.DictAt (PySem.strKind F.c.prog F.c.w) d cs ep ∧ za6 B cs kvs ∧ (d == sysModules) = false ∧ ∀ p ∈ kvs, PyData.strOk p.1 = true := by
 obtain ⟨cs, ⟨o, es, ep', h1, h2, h3, h4⟩, h5, h6⟩ := zcp R e
 obtain ⟨_, o', es', h7, h8⟩ := (R.own d).g ep eG
 rw [h1] at h7; cases h7
 rw [h3] at h8; cases h8
 exact ⟨cs, ⟨o, es, h1, h2, h3, h4⟩, h5, h6, ((R.own d).d kvs e).1⟩
theorem za6.at_ {κ : Type} {B : Keep} {cs : List (κ × Value)} {kvs : List (κ × V)} {i : Nat} {k : κ} {x : V} (r : za6 B cs kvs) (h : kvs[i]? = some (k, x)) : ∃ v, cs[i]? = some (k, v) ∧ RelV B v x := by
 induction r generalizing i with
 | nil => rw [List.getElem?_nil] at h; cases h
 | cons a _ q =>
  cases i with
  | zero => cases h; exact ⟨_, rfl, a⟩
  | succ i => exact q h
theorem zgm {target : Expr} {d : Addr} {kvs : List (Str × V)} {ep i n : Nat} {k : Str} {x : V} (e : H.D d = some kvs) (eG : H.G d = some ep) (hn : kvs.length = n) (hx : kvs[i]? = some (k, x)) : Nxt F target (zlk F.c.lo d n ep i) H (some (.str k, zlk F.c.lo d n ep (i + 1))) := fun E B0 B s it loc N Y R le hq J hY => by
 obtain ⟨h0, hb, o, h2, h3, h4⟩ := hq
 obtain ⟨cs, hm, hr, hs, hok⟩ := ze8 R e eG
 obtain ⟨v, e1, rv⟩ := hr.at_ hx
 have hlen := hr.length
 have hit : s.heap.IsKeyIter it d i cs.length ep := ⟨o, R.keep _ _ h2, h3, by rw [hlen, hn]; exact h4⟩
 refine wpAny_pyNext_dict_item (knd := PySem.strKind F.c.prog F.c.w) hit hm e1 fun key h' hkey hit' hs' => ?_
 obtain ⟨t, rfl⟩ := Value.isStrOf_shape hkey
 obtain ⟨o', ho', hc', hd'⟩ := id hit'
 refine letGo_keyiter (s' := { s with heap := h' }) hit' (hY _ _ (addB (za4 B it) it o') _ _ rfl (zim le h0) (fun J J r => r.turn h2 h4) (R.turnIt h2 h4 hb (fun b p hne q => (hs'.2 b hne).trans q) ho' rfl rfl) ⟨h0, hb, o', by simp [addB], hc', ?_⟩ (.str _ _ (hok _ (List.mem_of_getElem? hx))))
 rw [hd', hlen, hn]
theorem zc3 {target : Expr} {d : Addr} {kvs : List (Str × V)} {ep i n : Nat} (hh : F.A.handled = none) (e : H.D d = some kvs) (eG : H.G d = some ep) (hn : kvs.length = n) (hx : n ≤ i) : Nxt F target (zlk F.c.lo d n ep i) H none := fun E B0 B s it loc N Y R le hq hN J => by
 obtain ⟨h0, hb, o, h2, h3, h4⟩ := hq
 obtain ⟨cs, hm, hr, hs, hok⟩ := ze8 R e eG
 have hlen := hr.length
 have hit : s.heap.IsKeyIter it d i cs.length ep := ⟨o, R.keep _ _ h2, h3, by rw [hlen, hn]; exact h4⟩
 refine wpAny_pyNext_dict_end (knd := PySem.strKind F.c.prog F.c.w) hh hit hm (by rw [List.getElem?_eq_none]; lia) fun h' hs' => ?_
 exact hN _ _ rfl (zbz le h0) (fun J J r => r.drop h2 h4) (R.dropIt h2 h4 hb (fun b p hne q => hs' b p hne q) rfl rfl)
theorem zgn {iter : Expr} {Q : (Nat -> ItS) -> Loc -> Hp -> Prop} (h : WE F iter loc H fun X l H => ∃ d kvs, X = .ref d ∧ H.D d = some kvs ∧ ∀ ep, Q (zlk F.c.lo d kvs.length ep) l (H.aG d ep)) : WIt F iter loc H Q := fun B s R =>
 (h B s R).then fun v B1 X l1 H1 s1 le1 rv R1 ⟨d, kvs, e, eD, q⟩ => by
  subst e
  obtain rfl := rv.rI
  obtain ⟨cs, hm, hr, hs⟩ := zcp R1 eD
  obtain ⟨ep, hm⟩ := hm.dictAt
  obtain ⟨od, es, w1, w2, w3, w4⟩ := id hm
  refine wpAny_pyIter_dict hs hm ?_
  have R2 := R1.know eD w1 w3
  have hlen := hr.length
  have z := R2.hold (s' := { s1 with heap := s1.heap.push { cls := .type "dict_keyiterator", data := .fields #[.ref d, .int 0 0, .int cs.length 0, .int ep 0] } }) (a := s1.heap.objs.size) (o := { cls := .type "dict_keyiterator", data := .fields #[.ref d, .int 0 0, .int cs.length 0, .int ep 0] }) (Nat.le_refl _) (fun b o e => Heap.get?_push_of_some _ e) (Heap.get?_push_size _ rfl) rfl rfl
  have hn := (R1.fresh (Nat.le_refl _)).1
  have h1 := R1.fresh_B hn
  have h2 : B s1.heap.objs.size = none := by
   cases e : B s1.heap.objs.size with
   | none => rfl
   | some o => rw [le1 _ _ e] at h1; cases h1
  refine ⟨_, _, _, _, zlk F.c.lo d kvs.length ep, rfl, le1.trans z.2.1, z.1, ⟨h2, zbo R.based.2 h2, _, z.2.2, rfl, ?_⟩, q ep⟩
  rw [hlen]; rfl
noncomputable abbrev zf4 (it : Addr) (i : Int) (old : Value) : Obj := { cls := .type "enumerate", dict := none, data := .fields #[.none, .bool false, .ref it, rawInt i, .none, old], slots := #[] }
theorem zjl {A : Around} {E : Value -> Shared -> Prop} {B0 B : Keep} {s : Shared} {e it : Addr} {fp : List Addr} {n i : Nat} {P : Nat -> Value -> Prop} {St : Nat -> Heap -> Prop} {old : Value} {oi : Obj} {fi} {elts : List Expr} {x1} {pos : Pos} {Y : Value -> Shared -> Prop} {N : Shared -> Prop}
  (D : Draws F.c.prog F.c.w A.in1 it fp n P St) (R : FRel F B loc H s) (le : Le B0 B) (he0 : B0 e = none) (hi0 : B0 it = none) (hbe : F.c.lo e = none) (hbi : F.c.lo it = none) (hBe : B e = some (zf4 it i old)) (hBi : B it = some oi) (hoi : oi.data = .fields fi)
  (hst : St i s.heap) (hlt : i < n) (hne : e ≠ it) (hef : e ∉ fp) (hfi : ∀ h, St (i + 1) h -> ∃ o fl, h.get? it = some o ∧ o.data = .fields fl)
  (k : ∀ x v s' B' o, P i x -> St (i + 1) s'.heap -> Le B0 B' -> FRel F B' loc H s' -> B' e = some (zf4 it ((i + 1 : Nat) : Int) x) -> s'.heap.get? it = some o -> B' it = some o -> (∀ X, RelV B x X -> RelV B' v (.tup [.int i, X])) -> (∀ v X, RelV B v X -> RelV B' v X) -> Y v s') :
  wpAny F.M A (pyNext (.ref e)) (fun r s1 => match r with | none => N s1 | some v => wpAny F.M A (letOwnedTupleGo (.Tuple elts x1 pos) (.ref e) v) (fun J s1' => Y v s1') E s1) E s := by
 have he : IsEnum s.heap e it i old := R.keep _ _ hBe
 refine wpAny_pyNext_enum_itemD D he hst hlt hne hef fun x h' tk hP hout hst' htup hsz hk => ?_
 refine wpAny_letOwnedTupleGo_enum (s := { s with heap := h', toks := tk + 1 }) hout fun h'' he'' hs'' => ?_
 have hst2 : St (i + 1) h'' := D.frame _ _ _ hst' fun b hb o q => (hs''.2 b (by rintro rfl; exact hef hb)).trans q
 obtain ⟨o, fl, ho, hfl⟩ := hfi _ hst2
 have hTe : s.heap.objs.size ≠ e := Nat.ne_of_gt (Heap.lt_size he)
 have hTi : s.heap.objs.size ≠ it := Nat.ne_of_gt (Heap.lt_size (R.keep _ _ hBi))
 have hk2 : ∀ b o, b ≠ e -> b ≠ it -> s.heap.get? b = some o -> h''.get? b = some o := fun b o h1 h2 q => (hs''.2 b h1).trans (hk b o h1 h2 q)
 have ht2 : h''.get? s.heap.objs.size = some { cls := .type "tuple", data := .seq #[.int i tk, x] } := (hs''.2 _ hTe).trans htup
 -- drop both
 have R1 := R.dropIt hBe rfl hbe (s' := s) (fun b o J q => q) rfl rfl
 have hB1 : za4 B e it = some oi := by rw [zbx (Ne.symm hne)]; exact hBi
 have R2 := R1.dropIt hB1 hoi hbi (s' := s) (fun b o J q => q) rfl rfl
 have n1 : za4 (za4 B e) it e = none := by rw [zbx hne]; simp [za4]
 have n2 : za4 (za4 B e) it it = none := by simp [za4]
 have ke := R.kept hBe
 have ki := R.kept hBi
 have hT := R.nobody (a := s.heap.objs.size) (R.fresh (Nat.le_refl _)).1
 have nT : za4 (za4 B e) it s.heap.objs.size = none := by rw [zbx hTi, zbx hTe]; exact hT.1
 have R3 : FRel F (za4 (za4 B e) it) loc H { s with heap := h'', toks := tk + 1 } := R2.free (fun a => a = e ∨ a = it) (fun a h => by
  rcases h with rfl | rfl
  ·exact ⟨n1, ke⟩
  ·exact ⟨n2, ki⟩) (fun b o hb q => hk2 b o (fun z => hb (.inl z)) (fun z => hb (.inr z)) q) rfl rfl
 obtain ⟨R4, le4⟩ := R3.take (a := e) he'' n1 ke.1 ke.2.1 ke.2.2
 have n2' : addB (za4 (za4 B e) it) e (zf4 it (i + 1) x) it = none := by unfold addB; rw [if_neg (Ne.symm hne)]; exact n2
 obtain ⟨R5, le5⟩ := R4.take (a := it) ho n2' ki.1 ki.2.1 ki.2.2
 obtain ⟨R6, le6⟩ := R5.take (a := s.heap.objs.size) ht2 (by unfold addB; rw [if_neg hTi, if_neg hTe]; exact nT) hT.2.1 hT.2.2.1 hT.2.2.2
 have tr : ∀ v X, RelV B v X -> RelV _ v X := fun v X r => (((r.drop hBe rfl).drop hB1 hoi).mono le4).mono (le5.trans le6)
 refine k x _ _ _ o hP hst2 (((zbz (zbz le he0) hi0).trans le4).trans (le5.trans le6)) R6 ?_ ho (le6 _ _ (by simp [addB])) (fun X r => ?_) tr
 ·exact le6 _ _ (le5 _ _ (by simp [addB]))
 ·exact .tup (items := #[.int i tk, x]) (n := 0) (by simp [addB]) (.cons (.int _ _) (.cons (tr _ _ r) .nil))
noncomputable def znl (hb : Keep) (X : V) (i : Nat) : ItS := fun B0 B e => B0 e = none ∧ hb e = none ∧ ∃ it l o old, e ≠ it ∧ B0 it = none ∧ hb it = none ∧ B e = some (zf4 it i old) ∧ RelV B (.ref l) X ∧ B it = some o ∧ o.cls = .type "list_iterator" ∧ o.data = .fields #[.ref l, .int i 0]
theorem zmy {hb : Keep} {X : V} (i : Nat) : zdi (znl hb X i) := fun B0 B B' e le hq => by
 obtain ⟨h0, hb, it, l, o, old, h1, h2, h3, h4, h5, h6, h7⟩ := hq
 exact ⟨h0, hb, it, l, o, old, h1, h2, h3, le _ _ h4, h5.mono le, le _ _ h6, h7⟩
theorem zrz (ok : Ok F (n + 1)) {elts : List Expr} {x1} {pos : Pos} {X x : V} {xs : List V} {i : Nat} (e : asL H X = some xs) (hx : xs[i]? = some x) : Nxt F (.Tuple elts x1 pos) (znl F.c.lo X i) H (some (.tup [.int i, x], znl F.c.lo X (i + 1))) := fun E B0 B s a loc N Y R le hq J hY => by
 obtain ⟨h0, hb, it, l, o, old, h1, h2, h3, h4, h5, h6, h7, h8⟩ := hq
 obtain ⟨items, m, hl, hr⟩ := zio R h5 e
 obtain ⟨v, e1, rv⟩ := hr.get hx
 have hi : i < items.size := by
  have := (List.getElem?_eq_some_iff.mp e1).1
  simpa using this
 have hit : s.heap.IsListIter it l i := ⟨o, R.keep _ _ h6, h7, h8⟩
 have hoit := R.keep _ _ h6
 have hoe := R.keep _ _ h4
 have hne : l ≠ it := by rintro rfl; rw [hl] at hoit; cases hoit; cases h8
 have hel : a ≠ l := by
  rintro rfl; rw [hl] at hoe
  have := congrArg Obj.data (Option.some.inj hoe); cases this
 refine zjl (F := F) (B0 := B0) (Draws.list (prog := F.c.prog) (w := F.c.w) (A := F.A.in1) (ok.handled (by lia)) it l hne items) R le h0 h2 hb h3 h4 h6 h8 ⟨hit, hl.isList⟩ hi h1 (by simp [h1, hel]) (fun h st => let ⟨o, q1, _, q3⟩ := st.1; ⟨o, _, q1, q3⟩) ?_
 intro y v' s' B' o' hP hst le' R' he' ho' hi' hv ht
 obtain ⟨o2, q1, q2, q3⟩ := hst.1
 rw [ho'] at q1; cases q1
 have hy : y = v := by
  have : items[i]? = some v := by simpa using e1
  rw [hP] at this; exact Option.some.inj this
 subst hy
 exact hY _ _ B' v' s' rfl le' ht R' ⟨h0, hb, it, l, o', y, h1, h2, h3, he', ht _ _ h5, hi', q2, q3⟩ (hv _ rv)
theorem zkx (ok : Ok F (n + 1)) {target : Expr} {X : V} {xs : List V} {i : Nat} (e : asL H X = some xs) (hx : xs.length = i) : Nxt F target (znl F.c.lo X i) H none := fun E B0 B s a loc N Y R le hq hN J => by
 obtain ⟨h0, hb, it, l, o, old, h1, h2, h3, h4, h5, h6, h7, h8⟩ := hq
 obtain ⟨items, m, hl, hr⟩ := zio R h5 e
 have hlen := hr.length
 rw [Array.length_toList] at hlen
 have hit : s.heap.IsListIter it l i := ⟨o, R.keep _ _ h6, h7, h8⟩
 have hoit := R.keep _ _ h6
 have hne : l ≠ it := by rintro rfl; rw [hl] at hoit; cases hoit; cases h8
 have D := Draws.list (prog := F.c.prog) (w := F.c.w) (A := F.A.in1) (ok.handled (by lia)) it l hne items
 refine wpAny_pyNext_enum_endD D (R.keep _ _ h4) (by rw [hlen, hx]; exact ⟨hit, hl.isList⟩) fun h' hs' => ?_
 have R1 := R.dropIt h4 rfl hb (s' := s) (fun b o J q => q) rfl rfl
 have hB1 : za4 B a it = some o := by rw [zbx (Ne.symm h1)]; exact h6
 exact hN _ _ rfl (zbz (zbz le h0) h2) (fun J J r => (r.drop h4 rfl).drop hB1 h8) (R1.dropIt hB1 h8 h3 (fun b p hne q => hs' b p hne q) rfl rfl)
noncomputable def znm (hb : Keep) (xs : List V) (i : Nat) : ItS := fun B0 B e => B0 e = none ∧ hb e = none ∧ ∃ it l o old, e ≠ it ∧ B0 it = none ∧ hb it = none ∧ B e = some (zf4 it i old) ∧ RelV B (.ref l) (.tup xs) ∧ B it = some o ∧ o.cls = .type "tuple_iterator" ∧ o.data = .fields #[.ref l, .int i 0]
theorem zhv {hb : Keep} {xs : List V} (i : Nat) : zdi (znm hb xs i) := fun B0 B B' e le hq => by
 obtain ⟨h0, hb, it, l, o, old, h1, h2, h3, h4, h5, h6, h7⟩ := hq
 exact ⟨h0, hb, it, l, o, old, h1, h2, h3, le _ _ h4, h5.mono le, le _ _ h6, h7⟩
theorem znz (ok : Ok F (n + 1)) {elts : List Expr} {x1} {pos : Pos} {x : V} {xs : List V} {i : Nat} (hx : xs[i]? = some x) : Nxt F (.Tuple elts x1 pos) (znm F.c.lo xs i) H (some (.tup [.int i, x], znm F.c.lo xs (i + 1))) := fun E B0 B s a loc N Y R le hq J hY => by
 obtain ⟨h0, hb, it, l, o, old, h1, h2, h3, h4, h5, h6, h7, h8⟩ := hq
 obtain ⟨items, m, ht, hl, hr⟩ := zlz R h5
 obtain ⟨v, e1, rv⟩ := hr.get hx
 have hi : i < items.size := by
  have := (List.getElem?_eq_some_iff.mp e1).1
  simpa using this
 have hit : s.heap.IsTupleIter it l i := ⟨o, R.keep _ _ h6, h7, h8⟩
 have hoit := R.keep _ _ h6
 have hoe := R.keep _ _ h4
 have hne : l ≠ it := by rintro rfl; rw [ht] at hoit; cases hoit; cases h8
 have hel : a ≠ l := by
  rintro rfl; rw [ht] at hoe
  have := congrArg Obj.data (Option.some.inj hoe); cases this
 refine zjl (F := F) (B0 := B0) (zgv (prog := F.c.prog) (w := F.c.w) (A := F.A.in1) (ok.handled (by lia)) it l hne items) R le h0 h2 hb h3 h4 h6 h8 ⟨hit, hl⟩ hi h1 (by simp [h1, hel]) (fun h st => let ⟨o, q1, _, q3⟩ := st.1; ⟨o, _, q1, q3⟩) ?_
 intro y v' s' B' o' hP hst le' R' he' ho' hi' hv ht
 obtain ⟨o2, q1, q2, q3⟩ := hst.1
 rw [ho'] at q1; cases q1
 have hy : y = v := by
  have : items[i]? = some v := by simpa using e1
  rw [hP] at this; exact Option.some.inj this
 subst hy
 exact hY _ _ B' v' s' rfl le' ht R' ⟨h0, hb, it, l, o', y, h1, h2, h3, he', ht _ _ h5, hi', q2, q3⟩ (hv _ rv)
theorem zg0 (ok : Ok F (n + 1)) {target : Expr} {xs : List V} {i : Nat} (hx : xs.length = i) : Nxt F target (znm F.c.lo xs i) H none := fun E B0 B s a loc N Y R le hq hN J => by
 obtain ⟨h0, hb, it, l, o, old, h1, h2, h3, h4, h5, h6, h7, h8⟩ := hq
 obtain ⟨items, m, ht, hl, hr⟩ := zlz R h5
 have hlen := hr.length
 rw [Array.length_toList] at hlen
 have hit : s.heap.IsTupleIter it l i := ⟨o, R.keep _ _ h6, h7, h8⟩
 have hoit := R.keep _ _ h6
 have hne : l ≠ it := by rintro rfl; rw [ht] at hoit; cases hoit; cases h8
 have D := zgv (prog := F.c.prog) (w := F.c.w) (A := F.A.in1) (ok.handled (by lia)) it l hne items
 refine wpAny_pyNext_enum_endD D (R.keep _ _ h4) (by rw [hlen, hx]; exact ⟨hit, hl⟩) fun h' hs' => ?_
 have R1 := R.dropIt h4 rfl hb (s' := s) (fun b o J q => q) rfl rfl
 have hB1 : za4 B a it = some o := by rw [zbx (Ne.symm h1)]; exact h6
 exact hN _ _ rfl (zbz (zbz le h0) h2) (fun J J r => (r.drop h4 rfl).drop hB1 h8) (R1.dropIt hB1 h8 h3 (fun b p hne q => hs' b p hne q) rfl rfl)
end
section
variable {F : Fx} {n : Nat} {loc : Loc} {H : Hp}
theorem zis {x : Str} {np pos : Pos} {arg : Expr} {Q : (Nat -> ItS) -> Loc -> Hp -> Prop}
  (h : WE F (.Name x np) loc H fun f l1 H1 => f = .raw (.type "enumerate") ∧ WEs F pos [arg] l1 H1 fun Xs l2 H2 => ∃ X, Xs = [X] ∧ ((∃ xs, asL H2 X = some xs ∧ Q (znl F.c.lo X) l2 H2) ∨ (∃ xs, X = .tup xs ∧ Q (znm F.c.lo xs) l2 H2)))
  (hns : (backTo pos (starEach [arg] F.env)).any (·.1) = false := by rfl) : WIt F (.Call (.Name x np) [arg] [] pos) loc H Q := fun B s R => by
 refine wpAny_Call_ofName ((h B s R).then fun f B1 X l1 H1 s1 le1 rf R1 ⟨hX, h1⟩ => ?_)
 subst hX
 obtain rfl := rf.wI
 refine zbl hns (zbm hns ((h1 B1 s1 R1).then fun vs B2 Xs l2 H2 s2 le2 rv R2 ⟨X, hXs, q⟩ => ?_))
 subst hXs
 obtain ⟨_, rfl, ra⟩ := rv.c1
 rename_i va
 obtain ⟨k, hk⟩ := zdc (F := F) (loc := l2) (H := H2) (v := .type "enumerate") (by intro a h; cases h) B2 s2 (.type "enumerate") R2 (.raw _)
 refine ⟨⟨k, fun Q' q' => hk Q' q'⟩, ?_⟩
 have le := le1.trans le2
 have fin : ∀ (h' : Heap) (oi : Obj), IsEnum h' (s2.heap.objs.size + 1) s2.heap.objs.size 0 .none -> h'.get? s2.heap.objs.size = some oi -> (∀ b o, s2.heap.get? b = some o -> h'.get? b = some o) →
   ∃ B', Le B2 B' ∧ FRel F B' l2 H2 { s2 with heap := h' } ∧ B (s2.heap.objs.size + 1) = none ∧ B s2.heap.objs.size = none ∧ B' (s2.heap.objs.size + 1) = some (zf4 s2.heap.objs.size 0 .none) ∧ B' s2.heap.objs.size = some oi := by
  intro h' oi he hi hkp
  have R3 : FRel F B2 l2 H2 { s2 with heap := h' } := R2.grow (s' := { s2 with heap := h' }) hkp rfl rfl
  have n1 := R2.nobody (a := s2.heap.objs.size) (R2.fresh (Nat.le_refl _)).1
  have n2 := R2.nobody (a := s2.heap.objs.size + 1) (R2.fresh (Nat.le_succ _)).1
  obtain ⟨R4, le4⟩ := R3.take hi n1.1 n1.2.1 n1.2.2.1 n1.2.2.2
  obtain ⟨R5, le5⟩ := R4.take (a := s2.heap.objs.size + 1) he (by unfold addB; rw [if_neg (Nat.succ_ne_self _)]; exact n2.1) n2.2.1 n2.2.2.1 n2.2.2.2
  have nB : ∀ a, B2 a = none -> B a = none := fun a e => by
   cases z : B a with
   | none => rfl
   | some o => rw [le _ _ z] at e; cases e
  exact ⟨_, le4.trans le5, R5, nB _ n2.1, nB _ n1.1, by simp [addB], le5 _ _ (by simp [addB])⟩
 rcases q with ⟨xs, e, q⟩ | ⟨xs, e, q⟩
 ·obtain ⟨a, items, m, rfl, hl, hr⟩ := zcb R2 ra e
  refine call_enumerate_1 hl fun h' he hit hsz hkp => ?_
  refine wpAny_pyIter_enum (s := { s2 with heap := h' }) he ?_
  obtain ⟨oi, hi, hc, hd⟩ := id hit
  obtain ⟨B', le', R', b1, b2, b3, b4⟩ := fin h' oi he hi hkp
  exact ⟨B', _, l2, H2, znl F.c.lo X, rfl, le.trans le', R', ⟨b1, zbo R.based.2 b1, _, a, oi, .none, Nat.succ_ne_self _, b2, zbo R.based.2 b2, b3, ra.mono le', b4, hc, hd⟩, q⟩
 ·subst e
  obtain ⟨a, items, m, rfl, hb, hr⟩ := ra.tI
  refine zgx (R2.keep _ _ hb) fun h' he hit hsz hkp => ?_
  refine wpAny_pyIter_enum (s := { s2 with heap := h' }) he ?_
  obtain ⟨oi, hi, hc, hd⟩ := id hit
  obtain ⟨B', le', R', b1, b2, b3, b4⟩ := fin h' oi he hi hkp
  exact ⟨B', _, l2, H2, znm F.c.lo xs, rfl, le.trans le', R', ⟨b1, zbo R.based.2 b1, _, a, oi, .none, Nat.succ_ne_self _, b2, zbo R.based.2 b2, b3, (RelV.tup hb hr).mono le', b4, hc, hd⟩, q⟩
theorem zky {B : Keep} {s : Shared} (R : FRel F B loc H s) {a : Addr} {ov : Option V} (e : H.C a = some ov) : ∃ v, s.heap.IsCell a v ∧ zc0 B v ov := by
 obtain ⟨o, v, h1, h2, h3⟩ := (R.own a).c ov e
 exact ⟨v, ⟨o, h1, h2⟩, h3⟩
theorem zr0 (ok : Ok F n) {x : Str} {pos : Pos} {i : Nat} {a : Addr} {X : V} {Q : V -> Loc -> Hp -> Prop} (hx : look F.nm x = some (i, .cell)) (hc : F.env.cells.lookup x = some a) (e : H.C a = some (some X)) (q : Q X loc H) : WE F (.Name x pos) loc H Q := fun B s R => by
 obtain ⟨h1, h2⟩ := zbw hx
 obtain ⟨v, hv, r⟩ := zky R e
 cases v with
 | none => exact r.elim
 | some v => exact wpAny_Name (wpAny_loadName_cell ok.fn h2 hc hv (Post.pure r R q)) (zgr ok h2)
theorem zr1 (ok : Ok F n) {x : Str} {pos : Pos} {i : Nat} {a : Addr} {X : V} {Q : V -> Loc -> Hp -> Prop} (hx : look F.nm x = some (i, .free)) (hc : F.env.cells.lookup x = some a) (e : H.C a = some (some X)) (q : Q X loc H)
  (hn : (x == ("__classdict__" : Str)) = false := by decide) : WE F (.Name x pos) loc H Q := fun B s R => by
 obtain ⟨h1, h2⟩ := zbw hx
 obtain ⟨v, hv, r⟩ := zky R e
 cases v with
 | none => exact r.elim
 | some v => exact wpAny_Name (wpAny_loadName_free ok.fn h2 hc hv (Post.pure r R q) hn) (zgr ok h2)
theorem zg1 (ok : Ok F n) {x : Str} {i : Nat} {a : Addr} {X : V} {ov : Option V} {v : Value} {B : Keep} {s : Shared} {P : Unit -> Shared -> Prop} (hx : look F.nm x = some (i, .cell)) (hc : F.env.cells.lookup x = some a) (e : H.C a = some ov) (R : FRel F B loc H s) (r : RelV B v X)
  (q : ∀ s', FRel F B loc (H.aC a (some X)) s' -> P () s') : wpAny F.M F.A (storeName F.env x v) P F.E s := by
 obtain ⟨h1, h2⟩ := zbw hx
 obtain ⟨v0, hv, _⟩ := zky R e
 refine wpAny_storeName_cell ok.fn h2 hc hv fun h' ⟨o, ho, hd⟩ hs => q _ (R.setC (s' := { s with heap := h' }) (ov' := some X) e (fun b o hb z => (hs.2 b hb).trans z) ho hd r rfl rfl)
theorem zr2 (ok : Ok F n) {x : Str} {p : Pos} {i : Nat} {a : Addr} {X : V} {ov : Option V} {Q : Loc -> Hp -> Prop} (hx : look F.nm x = some (i, .cell)) (hc : F.env.cells.lookup x = some a) (e : H.C a = some ov) (q : Q loc (H.aC a (some X))) : WA F (.Name x p) X loc H Q := fun B s v R r => by
 show wpAny F.M F.A (assign (.Name x p) F.env v) _ _ _
 rw [arm_assign_Name]
 exact wpAny_bind (wpAny_standAt (wpAny_bindName (zg1 ok hx hc e R r fun s' R' => Post.pure (b := ()) trivial R' q)))
theorem zmz (ok : Ok F n) {x : Str} {i : Nat} {a : Addr} {e : Expr} {p pos : Pos} {Q : Fl -> Loc -> Hp -> Prop} (hx : look F.nm x = some (i, .cell)) (hc : F.env.cells.lookup x = some a) (h : WE F e loc H fun X l1 H1 => (∃ ov, H1.C a = some ov) ∧ Q .next l1 (H1.aC a (some X)))
  (hs : swapsWith e (some (.Name x p)) pos.line F.env = pure false := by rfl) : WS F (.Assign [.Name x p] e pos) loc H Q := fun B s R =>
 wpAny_Assign_Name ((h B s R).then fun a B1 X l1 H1 s1 le1 ra R1 ⟨⟨ov, e⟩, q⟩ => zg1 ok hx hc e R1 ra fun s' R' => (Post.pure .next R' q).lift le1) hs
noncomputable abbrev CFx (F : Fx) (scope : Scope) (cl : List (Str × Addr)) (C : Addr) (sv : List (Addr × Obj)) (E : Value -> Shared -> Prop) : Fx := ⟨F.c.sv sv, F.A, compEnvC scope cl C F.env, E⟩
noncomputable def zdt (scope : Scope) : Loc := scope.names.map fun J => none
noncomputable def zkg (F : Fx) (St : ItS) : Prop := ∀ (E : Value -> Shared -> Prop) B0 B s it loc H (Q : Value -> Shared -> Prop), FRel F B loc H s -> St B0 B it -> Q (.ref it) s -> wpAny F.M F.A (pyIter (.ref it)) Q E s
theorem zfs {hb : Keep} {X : V} {i : Nat} : zkg F (zke hb X i) := fun E B0 B s it loc H Q R ⟨h0, hb, l, o, h1, h2, h3, h4⟩ q => wpAny_pyIter_listiter ⟨o, R.keep _ _ h2, h3, h4⟩ q
theorem zft {hb : Keep} {n i : Nat} : zkg F (zkf hb n i) := fun E B0 B s it loc H Q R ⟨h0, hb, h2⟩ q => wpAny_pyIter_rangeiter (R.keep _ _ h2) q
theorem zm0 {hb : Keep} {d : Addr} {n ep i : Nat} : zkg F (zlk hb d n ep i) := fun E B0 B s it loc H Q R ⟨h0, hb, o, h2, h3, h4⟩ q => wpAny_pyIter_keyiter ⟨o, R.keep _ _ h2, h3, h4⟩ q
noncomputable def zc7 (F : Fx) (target elt : Expr) (ifs : List Expr) (l : Loc) (H : Hp) (x : V) (out : Option V) : Prop :=
 WA F target x l H fun l1 H1 => H1 = H ∧ (match ifs with
  | [] => WE F elt l1 H fun Y J H2 => H2 = H ∧ out = some Y
  | [c] => WB F c l1 H fun b l2 H2 => H2 = H ∧ (b = true -> WE F elt l2 H fun Y J H3 => H3 = H ∧ out = some Y) ∧ (b = false -> out = none)
  | _ => False)
noncomputable def zpe (F : Fx) (n : Nat) (target elt : Expr) (ifs : List Expr) (scope : Scope) (cl : List (Str × Addr)) (St : Nat -> ItS) (xs : List V) (f : V -> Option V) (H : Hp) : Prop :=
 (∀ i, zdi (St i)) ∧ xs.length ≤ 100000 ∧ ∀ C sv E, Ok (CFx F scope cl C sv E) n -> zkg (CFx F scope cl C sv E) (St 0) ∧
  (∀ i x, xs[i]? = some x -> Nxt (CFx F scope cl C sv E) target (St i) H (some (x, St (i + 1))) ∧ zc7 (CFx F scope cl C sv E) target elt ifs (zdt scope) H x (f x)) ∧ Nxt (CFx F scope cl C sv E) target (St xs.length) H none
theorem zg2 {scope : Scope} {l : Loc} : zap (zdt scope) l := fun i X h => by
 unfold zdt at h
 rw [List.getElem?_map] at h
 cases e : scope.names[i]? with
 | none => rw [e] at h; cases h
 | some p => rw [e] at h; cases h
theorem Rel.claim {c : Base} {L : Addr} {nm : List (Str × NameKind)} {B : Keep} {s : Shared} {D : Addr} {items : Array Value} {k : Nat} {sv : List (Addr × Obj)} {xs : List V} (R : Rel (c.sv ((D, zb2 items k) :: sv)) L nm B loc H s) (hs : ∀ p ∈ sv, p.1 ≠ D) (hl : c.lim < D) (r : zad B items.toList xs) :
  Rel (c.sv sv) L nm B loc (H.aL D xs) s := by
 obtain ⟨⟨o, h1, h2⟩, h3, h4, h5⟩ := R.sv _ (.head _)
 obtain rfl := h2.seq rfl
 have R1 : Rel (c.sv sv) L nm B loc H s := ⟨R.keep, R.based, fun a => (R.own a).unsv.sv, R.lB, R.lH, R.ns, R.gens, R.os, R.lim, fun p hp => R.sv p (.tail _ hp)⟩
 have x := zbj h4
 exact R1.chg h3 h5 hs (fun b o J e => e) (fun b hb => ⟨zcd _ _ _ hb, rfl, rfl, rfl, rfl, rfl, rfl⟩) (.ofL ⟨h3, hl⟩ ⟨x.2.1, x.2.2.1, x.2.2.2.1, x.2.2.2.2.1, x.2.2.2.2.2, (R1.own D).noG x.2.1⟩ h1 r) rfl rfl
theorem Rel.aside {c : Base} {L : Addr} {nm : List (Str × NameKind)} {B : Keep} {s : Shared} {D : Addr} {sv : List (Addr × Obj)} {xs : List V} (R : Rel (c.sv sv) L nm B loc H s) (e : H.L D = some xs) :
  ∃ items k, Rel (c.sv ((D, zb2 items k) :: sv)) L nm B loc (H.uL D) s ∧ zad B items.toList xs := by
 obtain ⟨items, k, hl, hr⟩ := (R.own D).l xs e
 have hw : H.Own D := .inl (zcc e)
 have y := (R.own D).noL e
 have R1 := R.weak (znx (a := D)) (zap.refl _)
 refine ⟨items, k, ⟨R1.keep, R1.based, fun a => (R1.own a).unsv.sv, R1.lB, R1.lH, R1.ns, R1.gens, R1.os, R1.lim, fun p hp => ?_⟩, hr⟩
 cases hp with
 | head _ => exact ⟨⟨_, hl, .inl ⟨rfl, fun J => rfl⟩⟩, ((R.own D).out hw).1, zgi (zgy _ _) y.1 y.2.1 y.2.2.1 y.2.2.2.1 y.2.2.2.2.1, R.own_ne_L hw⟩
 | tail _ hp => exact R1.sv p hp
end
theorem Rel.svmem {c : Base} {L : Addr} {nm : List (Str × NameKind)} {B : Keep} {loc : Loc} {H : Hp} {s : Shared} {l1 l2 : List (Addr × Obj)} (R : Rel (c.sv l1) L nm B loc H s) (h : ∀ p ∈ l2, p ∈ l1) : Rel (c.sv l2) L nm B loc H s :=
 ⟨R.keep, R.based, fun a => (R.own a).unsv.sv, R.lB, R.lH, R.ns, R.gens, R.os, R.lim, fun p hp => R.sv p (h p hp)⟩
theorem Rel.swap {c : Base} {L C : Addr} {nm nmC : List (Str × NameKind)} {B : Keep} {loc loc' : Loc} {H : Hp} {s : Shared} {oL : Obj} {sv : List (Addr × Obj)} (R : Rel (c.sv ((L, oL) :: sv)) C nmC B loc' H s) (hs : ∀ p ∈ sv, p.1 ≠ L)
  (hL : ∃ m, (∃ es ep, oL.data = .dict es ep ∧ StrKeys es ∧ ∀ name, nsFind es name = m name) ∧ zdh B nm loc m) : ∃ oC, Rel (c.sv ((C, oC) :: sv)) L nm B loc H s ∧ ∃ m, s.heap.Ns C m := by
 obtain ⟨mC, ⟨oC, esC, epC, g1, g2, g3⟩, _⟩ := R.ns
 obtain ⟨⟨o, h1, h2⟩, h3, h4, h5⟩ := R.sv _ (.head _)
 obtain ⟨m, ⟨es, ep, k1, k2⟩, hl⟩ := hL
 refine ⟨oC, ⟨R.keep, R.based, fun a => (R.own a).unsv.sv, h3, h4, ⟨m, ⟨o, es, ep, h1, (h2.dict k1).trans k1, k2⟩, hl⟩, R.gens, R.os, R.lim, fun p hp => ?_⟩, mC, oC, esC, epC, g1, g2, g3⟩
 cases hp with
 | head _ => exact ⟨⟨oC, g1, .inl ⟨rfl, fun J => rfl⟩⟩, R.lB, R.lH, Ne.symm h5⟩
 | tail _ hp =>
  obtain ⟨x1, x2, x3, x4⟩ := R.sv p (.tail _ hp)
  exact ⟨x1, x2, x3, hs p hp⟩
section
variable {F : Fx} {n : Nat} {loc : Loc} {H : Hp}
noncomputable def zeb (F : Fx) (target elt : Expr) (ifs : List Expr) (l : Loc) (HH : Option V -> Hp) (ov : Option V) (x : V) (out : Option V) : Prop :=
 WA F target x l (HH ov) fun l1 H1 => ∃ ov1, H1 = HH ov1 ∧ (match ifs with
  | [] => WE F elt l1 H1 fun Y J H2 => H2 = HH ov1 ∧ out = some Y
  | [c] => WB F c l1 H1 fun b l2 H2 => H2 = HH ov1 ∧ (b = true -> WE F elt l2 H2 fun Y J H3 => H3 = HH ov1 ∧ out = some Y) ∧ (b = false -> out = none)
  | _ => False)
theorem zc7.g {target elt : Expr} {ifs : List Expr} {l : Loc} {ov : Option V} {x : V} {out : Option V} (h : zc7 F target elt ifs l H x out) : zeb F target elt ifs l (fun J => H) ov x out :=
 fun B s v R rv => (h B s v R rv).mono fun _ l1 H1 ⟨e, h⟩ => ⟨none, e, by
  subst e
  cases ifs with
  | nil => exact h
  | cons c r =>
   cases r with
   | nil => exact WB.mono h fun b l2 H2 ⟨e, h1, h2⟩ => ⟨e, fun hb => by rw [e]; exact h1 hb, h2⟩
   | cons d r => exact h⟩
noncomputable def CR (F : Fx) (scope : Scope) (C D : Addr) (oL : Obj) (HH : Option V -> Hp) (items : Array Value) (kk : Nat) (ov : Option V) (l : Loc) (B : Keep) (s : Shared) : Prop :=
 Rel (F.c.sv ((D, zb2 items kk) :: (F.L, oL) :: F.c.saved)) C (relabel scope F.env).names B l (HH ov) s
inductive CI (xs : List V) (f : V -> Option V) (B0 B : Keep) (St : Nat -> ItS) (a : Addr) (R : Array Value -> Nat -> Option V -> Loc -> Keep -> Shared -> Prop) (k : Nat) (s : Shared) : Prop
 | mk (i : Nat) (items : Array Value) (kk : Nat) (ov : Option V) (l : Loc) (B' : Keep) (_ : i + k = xs.length) (_ : Le B0 B') (_ : Tr B B') (_ : R items kk ov l B' s) (_ : zad B' items.toList ((xs.take i).filterMap f)) (_ : St i B0 B' a) : CI xs f B0 B St a R k s
theorem Tr.relVs {B1 B2 : Keep} {vs : List Value} {ys : List V} (h : Tr B1 B2) : zad B1 vs ys -> zad B2 vs ys := by
 induction ys generalizing vs with
 | nil => intro r; obtain rfl := r.eI; exact .nil
 | cons y ys ih => intro r; cases r with | cons a r => exact .cons (h _ _ a) (ih r)
theorem zn0 {xs : List V} {f : V -> Option V} {i : Nat} {x : V} (hx : xs[i]? = some x) : (xs.take (i + 1)).filterMap f = (xs.take i).filterMap f ++ (f x).toList := by
 rw [List.take_add_one, hx, List.filterMap_append]
 cases hfx : f x <;> simp [hfx]
theorem zpu {xs : List V} {f : V -> Option V} {i : Nat} (h : xs.length ≤ 100000) : ((xs.take i).filterMap f).length ≤ 1000000 := by
 have h1 := List.length_filterMap_le f (xs.take i)
 have h3 : (xs.take i).length ≤ xs.length := by rw [List.length_take]; lia
 lia
theorem zn1 {scope : Scope} {C D : Addr} {oL : Obj} {HH : Option V -> Hp} (hHD : ∀ ov, (HH ov).L D = none) (hs : ∀ p ∈ (F.L, oL) :: F.c.saved, p.1 ≠ D) (hl : F.c.lim < D) {E : Value -> Shared -> Prop} {s' : Shared} {B' : Keep} {l' : Loc} {items : Array Value} {kk : Nat} {ov : Option V} {acc : List V} {y : Value} {Y : V} {P : Value -> Shared -> Prop}
  (R : CR F scope C D oL HH items kk ov l' B' s') (r : zad B' items.toList acc) (hz : acc.length ≤ 1000000) (ry : RelV B' y Y)
  (k : ∀ v s'' B'' l'' items' kk', Le B' B'' -> CR F scope C D oL HH items' kk' ov l'' B'' s'' -> zad B'' items'.toList (acc ++ [Y]) -> P v s'') :
  wpAny F.M F.A (call (.builtin "list.append") [.ref D, y]) P E s' := by
 have R4 := Rel.claim R hs hl r
 have hHD := hHD ov
 unfold CR at k
 generalize HH ov = H at R4 k hHD
 have hc := zeu (F := CFx F scope [] C ((F.L, oL) :: F.c.saved) E) (loc := l') (H := (H.aL D acc)) (a := D) (xs := acc) (Y := Y) (Q := fun X l2 H2 => H2 = ((H.aL D acc).aL D (acc ++ [Y]))) (by simp) hz rfl
 refine (hc B' s' _ [.ref D, y] R4 (.raw _) (.cons (.ref D) (.cons ry .nil))).then fun v B2 X l2 H2 s2 le2 J R5 q => ?_
 subst q
 obtain ⟨i2, k2, R6, r6⟩ := R5.aside (D := D) (xs := acc ++ [Y]) (by simp)
 have e1 : un (up (up H.L D acc) D (acc ++ [Y])) D = H.L := by
  funext b
  by_cases z : b = D
  ·subst z; simp [hHD]
  ·simp [un, up, z]
 have R6 : Rel (F.c.sv ((D, zb2 i2 k2) :: (F.L, oL) :: F.c.saved)) C (relabel scope F.env).names B2 l2 ⟨un (up (up H.L D acc) D (acc ++ [Y])) D, H.D, H.P, H.S, H.I, H.C, H.G⟩ s2 := R6
 rw [e1] at R6
 exact k v s2 B2 l2 i2 k2 le2 R6 r6
theorem zn2 {target elt : Expr} {l l0 : Loc} {S1 S2 : ItS} {HH : Option V -> Hp} {ov : Option V} {x : V} {out : Option V} {B0 B' : Keep} {a : Addr} {s : Shared} {N : Shared -> Prop} {Z : Value -> Shared -> Prop} (hn : Nxt F target S1 (HH ov) (some (x, S2))) (ht : zeb F target elt [] l0 HH ov x out)
  (hw : ∀ B2 s2, FRel F B2 l (HH ov) s2 -> FRel F B2 l0 (HH ov) s2) (le : Le B0 B') (R : FRel F B' l (HH ov) s) (st : S1 B0 B' a) (hZ : ∀ B2 B4 y Y l4 s4 ov1, Le B0 B2 -> Tr B' B2 -> S2 B0 B2 a -> Le B2 B4 -> RelV B4 y Y -> FRel F B4 l4 (HH ov1) s4 -> out = some Y -> Z y s4) :
  wpAny F.M F.A (pyNext (.ref a)) (fun r s1 => match r with
   | none => N s1
   | some v => wpAny F.M F.A (letOwnedTupleGo target (.ref a) v) (fun J s1' => wpAny F.M F.A (assign target F.env v) (fun J s2 => wpAny F.M F.A (eval elt F.env) Z F.E s2) F.E s1') F.E s1) F.E s := by
 refine hn _ B0 B' s a l _ (fun v s1' => wpAny F.M F.A (assign target F.env v) (fun J s2 => wpAny F.M F.A (eval elt F.env) Z F.E s2) F.E s1') R le st (fun J J e => by cases e) fun X' St' B2 v s2 e le2 tr2 R2 st2 rv => ?_
 injection e with e
 injection e with e1 e2
 subst e1 e2
 exact (ht B2 s2 v (hw _ _ R2) rv).then fun _ B3 _ l3 H3 s3 le3 _ R3 ⟨ov1, e3, h3⟩ => by
  subst e3
  exact (h3 B3 s3 R3).then fun y B4 Y l4 H4 s4 le4 ry R4 ⟨e4, h4⟩ => by
   subst e4
   exact hZ B2 B4 y Y l4 s4 ov1 le2 tr2 st2 (le3.trans le4) ry R4 h4
theorem zm1 {target elt c : Expr} {l l0 : Loc} {S1 S2 : ItS} {HH : Option V -> Hp} {ov : Option V} {x : V} {out : Option V} {B0 B' : Keep} {a : Addr} {s : Shared} {N W : Shared -> Prop} {Z : Value -> Shared -> Prop} (hn : Nxt F target S1 (HH ov) (some (x, S2))) (ht : zeb F target elt [c] l0 HH ov x out)
  (hw : ∀ B2 s2, FRel F B2 l (HH ov) s2 -> FRel F B2 l0 (HH ov) s2) (le : Le B0 B') (R : FRel F B' l (HH ov) s) (st : S1 B0 B' a) (hZ : ∀ B2 B4 y Y l4 s4 ov1, Le B0 B2 -> Tr B' B2 -> S2 B0 B2 a -> Le B2 B4 -> RelV B4 y Y -> FRel F B4 l4 (HH ov1) s4 -> out = some Y -> Z y s4)
  (hW : ∀ B2 B4 l4 s4 ov1, Le B0 B2 -> Tr B' B2 -> S2 B0 B2 a -> Le B2 B4 -> FRel F B4 l4 (HH ov1) s4 -> out = none -> W s4) :
  wpAny F.M F.A (pyNext (.ref a)) (fun r s1 => match r with
   | none => N s1
   | some v => wpAny F.M F.A (letOwnedTupleGo target (.ref a) v) (fun J s1' => wpAny F.M F.A (assign target F.env v) (fun J s2 => wpAny F.M F.A (isTrue c F.env (eval c F.env)) (fun ok s3 => if ok = true then wpAny F.M F.A (eval elt F.env) Z F.E s3 else W s3) F.E s2) F.E s1') F.E s1) F.E s := by
 refine hn _ B0 B' s a l _ (fun v s1' => wpAny F.M F.A (assign target F.env v) (fun J s2 => wpAny F.M F.A (isTrue c F.env (eval c F.env)) (fun ok s3 => if ok = true then wpAny F.M F.A (eval elt F.env) Z F.E s3 else W s3) F.E s2) F.E s1') R le st (fun J J e => by cases e) fun X' St' B2 v s2 e le2 tr2 R2 st2 rv => ?_
 injection e with e
 injection e with e1 e2
 subst e1 e2
 exact (ht B2 s2 v (hw _ _ R2) rv).then fun _ B3 _ l3 H3 s3 le3 _ R3 ⟨ov1, e3, h3⟩ => by
  subst e3
  refine (h3 B3 s3 R3).then fun bv B5 b l5 H5 s5 le5 eb R5 h5 => ?_
  subst eb
  obtain ⟨e5, ht, hf⟩ := h5
  subst e5
  cases bv with
  | false => exact hW B2 B5 l5 s5 ov1 le2 tr2 st2 (le3.trans le5) R5 (hf rfl)
  | true =>
   exact (ht rfl B5 s5 R5).then fun y B4 Y l4 H4 s4 le4 ry R4 ⟨e4, h4⟩ => by
    subst e4
    exact hZ B2 B4 y Y l4 s4 ov1 le2 tr2 st2 (le3.trans (le5.trans le4)) ry R4 h4
theorem zhw {elt target iter : Expr} {ifs : List Expr} {scope : Scope} {pos : Pos} {cl : List (Str × Addr)} {St : Nat -> ItS} {xs : List V} {f : V -> Option V} (hifs : ifs = [] ∨ ∃ c, ifs = [c]) (Kmono : ∀ i, zdi (St i)) (Klen : xs.length ≤ 100000)
  {C D : Addr} {oL : Obj} {HH : Option V -> Hp} (hHD : ∀ ov, (HH ov).L D = none) (hs : ∀ p ∈ (F.L, oL) :: F.c.saved, p.1 ≠ D) (hl : F.c.lim < D)
  (Kt : ∀ o E, (∀ i x ov, xs[i]? = some x -> Nxt (CFx F scope cl C ((D, o) :: (F.L, oL) :: F.c.saved) E) target (St i) (HH ov) (some (x, St (i + 1))) ∧ zeb (CFx F scope cl C ((D, o) :: (F.L, oL) :: F.c.saved) E) target elt ifs (zdt scope) HH ov x (f x)) ∧ ∀ ov, Nxt (CFx F scope cl C ((D, o) :: (F.L, oL) :: F.c.saved) E) target (St xs.length) (HH ov) none)
  {B0 B : Keep} (le : Le B0 B) {a : Addr} (st : St 0 B0 B a) {RR : Result -> Shared -> Prop}
  (fin : ∀ (s' : Shared) (B' : Keep) (l' : Loc) (items : Array Value) (kk : Nat) (ov : Option V), Le B0 B' -> CR F scope C D oL HH items kk ov l' B' s' -> zad B' items.toList (xs.filterMap f) -> Tr B B' -> RR (.ok .next) s')
  {i0 : Array Value} {k0 : Nat} {ov0 : Option V} {s3 : Shared} (R3 : CR F scope C D oL HH i0 k0 ov0 (zdt scope) B s3) (r0 : zad B i0.toList []) :
  codeAny F.M F.A (.compLoop (.ListComp elt [⟨target, iter, ifs, 0⟩] scope pos) 0 (.ref a) (.ref D) (compEnvC scope cl C F.env)) RR s3 := by
 have I0 : CI xs f B0 B St a (CR F scope C D oL HH) xs.length s3 := ⟨0, i0, k0, ov0, _, B, by lia, le, fun J J r => r, R3, by simpa using r0, st⟩
 have weakC : ∀ {s' : Shared} {B' : Keep} {l' : Loc} {c : Base} {K : Hp}, Rel c C (relabel scope F.env).names B' l' K s' -> Rel c C (relabel scope F.env).names B' (zdt scope) K s' := fun R' => R'.weak (Hp.Sub.refl _) zg2
 have step : ∀ {E : Value -> Shared -> Prop} {k i : Nat} {x Y : V} {y : Value} {items : Array Value} {kk : Nat} {ov : Option V} {s3 : Shared} {B' B3 : Keep} {l3 : Loc}, i + (k + 1) = xs.length -> xs[i]? = some x -> f x = some Y -> Le B0 B' -> Tr B B' -> zad B' items.toList ((xs.take i).filterMap f) -> St (i + 1) B0 B' a -> Le B' B3 →
   CR F scope C D oL HH items kk ov l3 B3 s3 -> RelV B3 y Y -> wpAny F.M F.A (call (.builtin "list.append") [.ref D, y]) (fun J s5 => ∃ m, m < k + 1 ∧ CI xs f B0 B St a (CR F scope C D oL HH) m s5) E s3 := by
  intro E k i x Y y items kk ov s3 B' B3 l3 hik hx hf le' tr r' st' le3 R3 ry
  refine zn1 hHD hs hl R3 (r'.mono le3) (zpu Klen) ry fun v s'' B'' l'' items' kk' le'' R'' r'' => ⟨k, Nat.lt_succ_self _, i + 1, items', kk', ov, l'', B'', by lia, (le'.trans le3).trans le'', (tr.trans (Tr.of le3)).trans (Tr.of le''), R'', ?_, Kmono _ _ _ _ _ (le3.trans le'') st'⟩
  rw [zn0 hx, hf]; exact r''
 have hend : ∀ {E : Value -> Shared -> Prop} {items : Array Value} {kk : Nat} {ov : Option V} {s' : Shared} {B' : Keep} {l' : Loc} {P : Value -> Shared -> Prop}, Le B0 B' -> Tr B B' -> CR F scope C D oL HH items kk ov l' B' s' -> zad B' items.toList (xs.filterMap f) -> St xs.length B0 B' a →
   wpAny F.M F.A (pyNext (.ref a)) (fun r s1 => match r with | none => RR (.ok .next) s1 | some v => wpAny F.M F.A (letOwnedTupleGo target (.ref a) v) (fun J s1' => P v s1') E s1) E s' := by
  intro E items kk ov s' B' l' P le' tr R' r' st'
  refine (Kt (zb2 items kk) E).2 ov _ B0 B' s' a l' _ _ R' le' st' ?_ ?_
  ·intro B2 s2 _ le2 tr2 R2
   exact fin s2 B2 l' items kk ov le2 R2 (tr2.relVs r') (tr.trans tr2)
  ·intro X St' B2 v s2 e; cases e
 have end0 : ∀ {i : Nat} {items : Array Value} {B' : Keep}, i + 0 = xs.length -> zad B' items.toList ((xs.take i).filterMap f) -> St i B0 B' a -> zad B' items.toList (xs.filterMap f) ∧ St xs.length B0 B' a := by
  intro i items B' e r st
  obtain rfl : i = xs.length := e
  rw [List.take_length] at r
  exact ⟨r, st⟩
 rcases hifs with rfl | ⟨c, rfl⟩
 ·refine kcp_loop (CI xs f B0 B St a (CR F scope C D oL HH)) ?_ xs.length I0
  rintro k s' ⟨i, items, kk, ov, l', B', hik, le', tr, R', r', st'⟩
  cases k with
  | zero => exact hend le' tr R' (end0 hik r' st').1 (end0 hik r' st').2
  | succ k =>
   have hi : i < xs.length := by lia
   have hx : xs[i]? = some xs[i] := List.getElem?_eq_getElem hi
   generalize xs[i] = x at hx
   have hk := (Kt (zb2 items kk) (notedBy F.M F.A (compEnvC scope cl C F.env) fun e s' => RR (.error e) s')).1 i _ ov hx
   exact zn2 hk.1 hk.2 (fun J J R => weakC R) le' R' st' fun B2 B4 y Y l4 s4 ov1 le2 tr2 st2 le4 ry R4 ho => step hik hx ho le2 (tr.trans tr2) (tr2.relVs r') st2 le4 R4 ry
 ·refine kct_loop (CI xs f B0 B St a (CR F scope C D oL HH)) ?_ xs.length I0
  rintro k s' ⟨i, items, kk, ov, l', B', hik, le', tr, R', r', st'⟩
  cases k with
  | zero => exact hend le' tr R' (end0 hik r' st').1 (end0 hik r' st').2
  | succ k =>
   have hi : i < xs.length := by lia
   have hx : xs[i]? = some xs[i] := List.getElem?_eq_getElem hi
   generalize xs[i] = x at hx
   have hk := (Kt (zb2 items kk) (notedBy F.M F.A (compEnvC scope cl C F.env) fun e s' => RR (.error e) s')).1 i _ ov hx
   refine zm1 hk.1 hk.2 (fun J J R => weakC R) le' R' st' (fun B2 B4 y Y l4 s4 ov1 le2 tr2 st2 le4 ry R4 ho => step hik hx ho le2 (tr.trans tr2) (tr2.relVs r') st2 le4 R4 ry) fun B2 B4 l4 s4 ov1 le2 tr2 st2 le4 R4 ho => ⟨k, Nat.lt_succ_self _, i + 1, items, kk, ov1, _, B4, by lia, le2.trans le4, (tr.trans tr2).trans (Tr.of le4), R4, ?_, Kmono _ _ _ _ _ le4 st2⟩
   rw [zn0 hx, ho]; simpa using (tr2.relVs r').mono le4
theorem zl0 {B0 B : Keep} {s : Shared} {l : Loc} (R : FRel F B l H s) {P : Value -> Shared -> Prop}
  (h : ∀ D s1 i0 k0, Rel (F.c.sv ((D, zb2 i0 k0) :: F.c.saved)) F.L F.nm B l H s1 -> zad B i0.toList [] -> F.c.lim < D -> (∀ p ∈ F.c.saved, p.1 ≠ D) -> F.L ≠ D -> H.L D = none -> P (.ref D) s1) : wpAny F.M F.A (newList []) P F.E s := by
 refine zhr R .nil (by simp) fun D s1 hD R1 => ?_
 obtain ⟨i0, k0, R2, r0⟩ := (show Rel (F.c.sv F.c.saved) F.L F.nm B l (H.aL D []) s1 from R1).aside (D := D) (xs := []) (by simp)
 have hHD : H.L D = none := (zbj hD).1
 refine h D s1 i0 k0 ?_ r0 ((R1.own D).out (.inl (by simp))).2 (fun p hp e => (R1.sv p hp).2.2.1 (by rw [e]; exact .inl (by simp))) (fun e => R1.lH (by rw [e]; exact .inl (by simp))) hHD
 have R2 : Rel (F.c.sv ((D, zb2 i0 k0) :: F.c.saved)) F.L F.nm B l ⟨un (up H.L D []) D, H.D, H.P, H.S, H.I, H.C, H.G⟩ s1 := R2
 rw [zjk hHD] at R2
 exact R2
theorem zl1 {scope : Scope} {C D : Addr} {oL : Obj} {HH : Option V -> Hp} (hHD : ∀ ov, (HH ov).L D = none) (hS : ∀ ov, H.Sub (HH ov)) (hs : ∀ p ∈ (F.L, oL) :: F.c.saved, p.1 ≠ D) (hl : F.c.lim < D) {s' : Shared} {B' : Keep} {l l' : Loc} {items : Array Value} {kk : Nat} {ov : Option V} {ys : List V}
  (R : CR F scope C D oL HH items kk ov l' B' s') (r : zad B' items.toList ys) (hsv : ∀ p ∈ F.c.saved, p.1 ≠ F.L) (hL : ∀ B2, Le B' B2 -> ∃ m, (∃ es ep, oL.data = .dict es ep ∧ StrKeys es ∧ ∀ name, nsFind es name = m name) ∧ zdh B2 F.nm l m)
  {Q : Prop} (h : ∀ B2 oC, Le B' B2 -> FRel (F.svd ((C, oC) :: F.c.saved)) B2 l H s' -> (∃ m, s'.heap.Ns C m) -> (∀ p ∈ F.c.saved, p.1 ≠ C) -> RelV B2 (.ref D) (.list ys) -> Q) : Q := by
 have R4 := Rel.claim R hs hl r
 have hHD := hHD ov
 have hS := hS ov
 generalize HH ov = H1 at R4 hHD hS
 obtain ⟨B2, le2, R5, r5⟩ := R4.freezeL (a := D) (xs := ys) (by simp)
 have R5 : Rel (F.c.sv ((F.L, oL) :: F.c.saved)) C (relabel scope F.env).names B2 l' ⟨un (up H1.L D ys) D, H1.D, H1.P, H1.S, H1.I, H1.C, H1.G⟩ s' := R5
 rw [zjk hHD] at R5
 have R5 := R5.weak hS (zap.refl _)
 obtain ⟨oC, R6, hC6⟩ := R5.swap (nm := F.nm) (loc := l) hsv (hL B2 le2)
 exact h B2 oC le2 R6 hC6 (fun p hp => (R5.sv p (.tail _ hp)).2.2.2) r5
theorem zfu (ok : Ok F n) {scope : Scope} {cl : List (Str × Addr)} {C D : Addr} {oL : Obj} {esL epL} (hdL : oL.data = .dict esL epL) (hkind : scope.kind = .function) (hdbg : (relabel scope F.env).names.lookup ("__debug__" : Str) = none) (o : Obj) (E : Value -> Shared -> Prop) : Ok (CFx F scope cl C ((D, o) :: (F.L, oL) :: F.c.saved) E) n := ⟨hkind, ok.glob, ok.bi, hdbg, ok.units, ok.depth, ok.handled, by
 obtain ⟨fl, h1, h2⟩ := ok.fr
 refine ⟨fl, h1, fun e he => ?_⟩
 obtain ⟨g1, g2⟩ := h2 e he
 refine ⟨g1, .inr ?_⟩
 rcases g2 with g2 | ⟨p, hp, g2⟩
 ·exact ⟨(F.L, oL), .tail _ (.head _), g2, esL, epL, hdL⟩
 ·exact ⟨p, .tail _ (.tail _ hp), g2⟩⟩
theorem zjm (ok : Ok F n) {elt target iter : Expr} {ifs : List Expr} {scope : Scope} {pos : Pos} {cl : List (Str × Addr)} {St : Nat -> ItS} {xs : List V} {f : V -> Option V} (hifs : ifs = [] ∨ ∃ c, ifs = [c])
  (hcell : ∀ y ∈ scope.names, y.2 ≠ .cell) (hkind : scope.kind = .function) (hdbg : (relabel scope F.env).names.lookup ("__debug__" : Str) = none) (K : zpe F n target elt ifs scope cl St xs f H)
  {B0 B : Keep} {s : Shared} {a : Addr} {l : Loc} (R : FRel F B l H s) (le : Le B0 B) (st : St 0 B0 B a) {RR : Value -> Addr -> Result -> Shared -> Prop}
  (hRR : ∀ D C oC s' B', Le B0 B' -> FRel (F.svd ((C, oC) :: F.c.saved)) B' l H s' -> (∃ m', s'.heap.Ns C m') -> (∀ p ∈ F.c.saved, p.1 ≠ C) -> RelV B' (.ref D) (.list (xs.filterMap f)) -> RR (.ref D) C (.ok .next) s') :
  wpAny F.M F.A (newList []) (fun acc s3 => wpAny F.M F.A (newFunctionEnv scope F.env.globals cl [] F.env.qual none .none (some F.env)) (fun cenv s4 =>
   codeAny F.M F.A (.compStart (.ListComp elt [⟨target, iter, ifs, 0⟩] scope pos) 0 (.ref a) acc { cenv with scope := relabel scope F.env }) (RR acc cenv.locals) s4) F.E s3) F.E s := by
 obtain ⟨Kmono, Klen, Kt⟩ := K
 refine zl0 (B0 := B0) R fun D s1 i0 k0 R2 r0 hlimD hsD hDL hHD => ?_
 obtain ⟨mL1, ⟨oL1, esL1, epL1, hL1, hdL1, hkL1⟩, hlL1⟩ := R2.ns
 refine wpAny_newFunctionEnv hcell (by intro y hy; simp at hy) (fun h' hns hsb => ?_) hkind
 have hk : ∀ b o, s1.heap.get? b = some o -> h'.get? b = some o := fun b o e => hsb.extBut b o (Nat.ne_of_lt (Heap.lt_size e)) (Heap.get?_push_of_some _ e)
 generalize hC : s1.heap.objs.size = C at hns hsb
 have R3 : CR F scope C D oL1 (fun J => H) i0 k0 none (zdt scope) B { s1 with heap := h', toks := s1.toks + ([] : List (Str × Value)).length } := by
  refine (R2.into (s' := { s1 with heap := h', toks := s1.toks + ([] : List (Str × Value)).length }) hL1 hk (Nat.le_of_eq hC) hns (nm' := (relabel scope F.env).names) (loc' := zdt scope) ?_ rfl rfl).svmem ?_
  ·intro x i X _ hl
   have := zg2 (l := []) i X hl
   simp at this
  ·intro p hp
   simp only [List.mem_cons] at hp ⊢
   rcases hp with h | h | h
   ·exact .inr (.inl h)
   ·exact .inl h
   ·exact .inr (.inr h)
 have hsD2 : ∀ p ∈ (F.L, oL1) :: F.c.saved, p.1 ≠ D := fun p hp => by
  cases hp with
  | head _ => exact hDL
  | tail _ hp => exact hsD p hp
 have loop := zhw (elt := elt) (target := target) (iter := iter) (pos := pos) (RR := RR (.ref D) C) hifs Kmono Klen (fun J => hHD) hsD2 hlimD (fun o E => ⟨fun i x ov hx => ⟨((Kt C _ _ (zfu ok hdL1 hkind hdbg o E)).2.1 i x hx).1, ((Kt C _ _ (zfu ok hdL1 hkind hdbg o E)).2.1 i x hx).2.g⟩, fun ov => (Kt C _ _ (zfu ok hdL1 hkind hdbg o E)).2.2⟩) le st
  (fun s' B' l' items kk ov le' R' r' tr => zl1 (l := l) (H := H) (fun J => hHD) (fun J => Hp.Sub.refl _) hsD2 hlimD R' r' (fun p hp => (R.sv p hp).2.2.2) (fun B2 le2 => ⟨mL1, ⟨esL1, epL1, hdL1, hkL1⟩, (hlL1.tr tr).mono le2⟩) fun B2 oC le2 R6 hC6 hne r5 => hRR D C oC s' B2 (le'.trans le2) R6 hC6 hne r5) R3 r0
 refine codeAny_compStart_list loop ?_
 exact (Kt C _ _ (zfu ok hdL1 hkind hdbg (zb2 i0 k0) F.E)).1 _ B0 B _ a (zdt scope) H _ R3 st loop
theorem Rel.unsave {c : Base} {L C : Addr} {nm : List (Str × NameKind)} {B : Keep} {loc : Loc} {H : Hp} {s s' : Shared} {oC : Obj} {sv : List (Addr × Obj)} (R : Rel (c.sv ((C, oC) :: sv)) L nm B loc H s) (hs : ∀ p ∈ sv, p.1 ≠ C) (hk : ∀ b o, b ≠ C -> s.heap.get? b = some o -> s'.heap.get? b = some o) (hg : s'.gens = s.gens) (ho : s'.os = s.os) :
  Rel (c.sv sv) L nm B loc H s' := by
 obtain ⟨_, h1, h2, h3⟩ := R.sv _ (.head _)
 exact (R.svmem (fun p hp => .tail _ hp)).free (fun a => a = C) (fun a e => by subst e; exact ⟨h1, h2, h3, hs⟩) (fun b o hb q => hk b o hb q) hg ho
theorem zcy (ok : Ok F n) {elt target iter : Expr} {ifs : List Expr} {scope : Scope} {pos : Pos} {Q : V -> Loc -> Hp -> Prop} (cl : List (Str × Addr)) (hifs : ifs = [] ∨ ∃ c, ifs = [c])
  (hclos : closureFor scope F.env = pure cl) (hcell : ∀ y ∈ scope.names, y.2 ≠ .cell) (hkind : scope.kind = .function) (hdbg : (relabel scope F.env).names.lookup ("__debug__" : Str) = none) (hnames : ∀ y ∈ scope.names, y.2 = .local -> scope.names.lookup y.1 = some .local)
  (h : WIt F iter loc H fun St l H1 => ∃ xs f, zpe F n target elt ifs scope cl St xs f H1 ∧ Q (.list (xs.filterMap f)) l H1)
  (hs : ∀ x, foldedSetIterable iter F.env x = pure x := by intro _; rfl) : WE F (.ListComp elt [⟨target, iter, ifs, 0⟩] scope pos) loc H Q := fun B s R => by
 show wpAny F.M F.A (eval (.ListComp elt [⟨target, iter, ifs, 0⟩] scope pos) F.env) _ _ _
 rw [eval_ListComp]
 refine wpAny_comprehension_free (use := none) rfl hs hclos hkind hnames (wpAny_mono (h B s R) (fun xv s₁ h₁ => wpAny_mono h₁ (fun it s₂ h₂ => ?_) fun J J e => e) fun J J e => e)
 obtain ⟨B', a, l, H', St, rfl, le, R', st, xs, f, K, q⟩ := h₂
 refine zjm ok hifs hcell hkind hdbg K R' le st (RR := fun acc C => compPost F.M F.A F.E none (Post F RelV B Q) acc C) fun D C oC s' B2 le2 R2 ⟨m, hn⟩ hC r => ?_
 exact ⟨m, hn, fun h' hs' => ⟨B2, _, l, H', le2, r, (R2.unsave (s' := { s' with heap := h' }) hC (fun b o hb e => hs'.extBut b o hb e) rfl rfl : Rel (F.c.sv F.c.saved) F.L F.nm B2 l H' _), q⟩⟩
end
section
variable {F : Fx} {n : Nat} {loc : Loc} {H : Hp}
noncomputable def WOpt (F : Fx) (e : Option Expr) (loc : Loc) (H : Hp) (Q : Option Int -> Loc -> Hp -> Prop) : Prop := ∀ B s, FRel F B loc H s -> PW F (evalPart e F.env) (fun J => IsPart) B s Q
theorem zjn {Q : Option Int -> Loc -> Hp -> Prop} (q : Q none loc H) : WOpt F none loc H Q := fun B s R => wpAny_pure (Post.pure .none R q)
theorem zjo {e : Expr} {Q : Option Int -> Loc -> Hp -> Prop} (h : WE F e loc H fun X l H => ∃ i, X = .int i ∧ Q (some i) l H) : WOpt F (some e) loc H Q := fun B s R => by
 refine wpAny_mono (h B s R) (fun v s' p => ?_) fun J J e => e
 obtain ⟨B', X, l, H', le, r, R', i, rfl, q⟩ := p
 obtain ⟨_, rfl⟩ := r.iI
 exact ⟨B', _, l, H', le, .int _ _, R', q⟩
noncomputable def cut (xs : List V) (lo hi : Option Int) : List V := (xs.drop (lo.getD 0).toNat).take ((hi.map Int.toNat).getD xs.length - (lo.getD 0).toNat)
theorem zl2 {i : Int} {n : Nat} (h : 0 ≤ i) : max 0 (min (if i < 0 then i + (n : Int) else i) n) = ((min i.toNat n : Nat) : Int) := by
 rw [if_neg (Int.not_lt.mpr h)]
 obtain ⟨k, rfl⟩ := Int.eq_ofNat_of_zero_le h
 rw [Int.toNat_natCast]
 by_cases hk : k ≤ n
 ·rw [Int.min_eq_left (Int.ofNat_le.mpr hk), Nat.min_eq_left hk]; exact Int.max_eq_right (Int.natCast_nonneg _)
 ·have hk := Nat.le_of_lt (Nat.lt_of_not_le hk)
  rw [Int.min_eq_right (Int.ofNat_le.mpr hk), Nat.min_eq_right hk]; exact Int.max_eq_right (Int.natCast_nonneg _)
theorem zr3 {B : Keep} {vs : List Value} {xs : List V} (r : zad B vs xs) {lo hi : Option Int} (h1 : ∀ i, lo = some i -> 0 ≤ i) (h2 : ∀ i, hi = some i -> 0 ≤ i) : zad B (slicePick vs.toArray lo hi none).toList (cut xs lo hi) := by
 have hlen := r.length
 have e : sliceBounds lo hi none vs.toArray.size = (((min (lo.getD 0).toNat vs.length : Nat) : Int), ((min ((hi.map Int.toNat).getD vs.length) vs.length : Nat) : Int), 1) := by
  simp only [sliceBounds, List.size_toArray, Option.getD_none]
  have lo1 : ∀ (i : Int), lo = some i -> max 0 (min (if i < 0 then i + (vs.length : Int) else i) vs.length) = ((min i.toNat vs.length : Nat) : Int) := fun i e => zl2 (h1 i e)
  have hi1 : ∀ (i : Int), hi = some i -> max 0 (min (if i < 0 then i + (vs.length : Int) else i) vs.length) = ((min i.toNat vs.length : Nat) : Int) := fun i e => zl2 (h2 i e)
  refine Prod.ext ?_ (Prod.ext ?_ rfl)
  ·cases lo with
   | none => simp
   | some i => dsimp only; rw [if_pos (by decide)]; exact lo1 i rfl
  ·cases hi with
   | none => simp
   | some i => dsimp only; rw [if_pos (by decide)]; exact hi1 i rfl
 rw [kmk_pick_nat _ e]
 have e2 : ((vs.toArray.toList.drop (min (lo.getD 0).toNat vs.length)).take (min ((hi.map Int.toNat).getD vs.length) vs.length - min (lo.getD 0).toNat vs.length)) = (vs.drop (lo.getD 0).toNat).take ((hi.map Int.toNat).getD vs.length - (lo.getD 0).toNat) := by
  simp only [List.toList_toArray]
  rw [kmk_drop_min]
  generalize (lo.getD 0).toNat = a
  generalize (hi.map Int.toNat).getD vs.length = b
  by_cases h : a ≤ vs.length
  ·rw [Nat.min_eq_left h]
   by_cases h' : b ≤ vs.length
   ·rw [Nat.min_eq_left h']
   ·have h' := Nat.le_of_lt (Nat.lt_of_not_le h')
    rw [Nat.min_eq_right h', List.take_of_length_le (by simp), List.take_of_length_le (by rw [List.length_drop]; exact Nat.sub_le_sub_right h' _)]
  ·rw [List.drop_of_length_le (Nat.le_of_lt (Nat.lt_of_not_le h))]; simp
 rw [e2]
 have := (r.drop (lo.getD 0).toNat).take ((hi.map Int.toNat).getD vs.length - (lo.getD 0).toNat)
 rw [hlen] at this
 unfold cut
 rw [hlen]
 simpa using this
theorem zex {vs : List Value} {xs : List V} {B : Keep} {s s' : Shared} {a : Addr} {k : Nat} {P : Value -> Shared -> Prop} (R : FRel F B loc H s) (r : zad B vs xs) (ha : s.heap.objs.size ≤ a) (hk : ∀ b o, s.heap.get? b = some o -> s'.heap.get? b = some o) (hn : s'.heap.get? a = some (zb2 vs.toArray k)) (hg : s'.gens = s.gens) (ho : s'.os = s.os)
  (h : ∀ B', Le B B' -> RelV B' (.ref a) (.list xs) -> FRel F B' loc H s' -> P (.ref a) s') : P (.ref a) s' := by
 obtain ⟨R1, le, e⟩ := R.hold ha hk hn hg ho
 exact h _ le (.list (items := vs.toArray) (n := k) e (by simpa using r.mono le)) R1
theorem zjp {value : Expr} {lo hi : Option Expr} {p pos : Pos} {Q : V -> Loc -> Hp -> Prop}
  (h : WE F value loc H fun X l1 H1 => WOpt F lo l1 H1 fun a l2 H2 => WOpt F hi l2 H2 fun b l3 H3 => ∃ xs, asL H3 X = some xs ∧ xs.length ≤ 1000000 ∧ (∀ i, a = some i -> 0 ≤ i) ∧ (∀ i, b = some i -> 0 ≤ i) ∧ Q (.list (cut xs a b)) l3 H3)
  (ht : ∀ o r, letTemporaryGo value o r = pure () := by intro _ _; rfl) : WE F (.Subscript value (.Slice lo hi none p) pos) loc H Q := fun B s R => by
 refine wpAny_Subscript_Slice list_getitem_lookup ((h B s R).then fun v B1 X l1 H1 s1 le1 r1 R1 h1 => wpAny_Slice ((h1 B1 s1 R1).then fun va B2 a l2 H2 s2 le2 ra R2 h2 => (h2 B2 s2 R2).then fun vb B3 b l3 H3 s3 le3 rb R3 h3 => ?_)) ht
 obtain ⟨xs, e, hz, ha, hb, q⟩ := h3
 refine wpAny_pure ?_
 have R4 := R3.grow (s' := { s3 with heap := s3.heap.push { cls := .type "slice", data := .fields #[va, vb, .none] } }) (fun b o e => Heap.get?_push_of_some _ e) rfl rfl
 obtain ⟨l, items, m, rfl, hl, hr⟩ := zcb R4 (r1.mono (le2.trans le3)) e
 have hlen := hr.length
 rw [Array.length_toList] at hlen
 refine ⟨hl.isList.typeIs, wpAny_getItem_list_slice hl.isList (Heap.IsSliceOf.new ..) ra rb .none (by simp) ?_ (by rw [hlen, sizeLine_eq]; lia)⟩
 have hc := zr3 hr ha hb
 rw [Array.toArray_toList] at hc
 refine zex (P := Post F RelV B Q) (vs := (slicePick items a b none).toList) (k := 0) R4 hc (Nat.le_refl _) (fun b o e => Heap.get?_push_of_some _ e) (by rw [Array.toArray_toList]; exact Heap.get?_push_size _ rfl) rfl rfl fun B' le' r' R' => ?_
 exact (Post.pure r' R' q).lift ((le1.trans (le2.trans le3)).trans le')
theorem zn3 {x : Str} {i : Int} {k : Nat} {Q : V -> Loc -> Hp -> Prop} (hs : -1000000 < i) (hb : i < 1000000) (hc : (seqIndex? i x.length).bind (x.cps[·]?) = some k) (hk : PyData.strOk ⟨#[k]⟩ = true) (q : Q (.str ⟨#[k]⟩) loc H) : Sub F (.str x) (.int i) loc H Q := fun B s o j R ro rj => by
 obtain ⟨_, rfl⟩ := rj.iI; obtain ⟨_, rfl, _⟩ := ro.sI
 refine ⟨"str", _, PySem.F.slot_str_getitem.lookup, typeIs_str _ _ _, PyProof.Rows.getItem_str ?_ hc (Post.pure (.str _ _ hk) (R.tok _) q)⟩
 simp; lia
theorem zn4 {x y : Str} {Q : Bool -> Loc -> Hp -> Prop} (q : Q (!(Builtin.Str.occurrences x y 0 x.length 1).isEmpty) loc H) : Cmp F .In (.str y) (.str x) loc H Q := fun B s a b R ra rb => by
 obtain ⟨_, rfl, _⟩ := ra.sI; obtain ⟨_, rfl, _⟩ := rb.sI
 exact PyProof.Rows.in_str (Post.pure rfl R q)
theorem zn5 {X Y : V} {xs ys : List V} {Q : V -> Loc -> Hp -> Prop} (ex : asL H X = some xs) (ey : asL H Y = some ys) (hz : xs.length + ys.length ≤ 1000000) (q : ∀ a, H.Fresh a -> Q (.ref a) loc (H.aL a (xs ++ ys))) : Op2 F (binaryOp .Add) X Y loc H Q := fun B s a b R ra rb => by
 obtain ⟨l, items, m, rfl, hl, hr⟩ := zcb R ra ex
 obtain ⟨l', items', m', rfl, hl', hr'⟩ := zcb R rb ey
 have h1 := hr.length
 have h2 := hr'.length
 rw [Array.length_toList] at h1 h2
 refine PySem.P.add_list hl hl' (Post.pure (.ref _) (R.newL (s' := { s with heap := s.heap.push { cls := .type "list", data := .seq (items ++ items') } }) (a := s.heap.objs.size) (items := items ++ items') (n := 0) (Nat.le_refl _) (fun b o e => Heap.get?_push_of_some _ e) (Heap.get?_push_size _ rfl) (by simpa using hr.append hr') rfl rfl) (q _ (R.fresh_H (R.fresh (Nat.le_refl _)).1))) (by rw [h1, h2, sizeLine_eq]; lia)
theorem zn6 {X : V} {xs : List V} {Q : V -> Loc -> Hp -> Prop} (ex : asL H X = some xs ∨ X = .tup xs) (hz : xs.length ≤ 1000000) (q : ∀ a, H.Fresh a -> Q (.ref a) loc (H.aL a xs)) : Call F (.raw (.type "list")) [X] loc H Q := fun B s v vs R rv rvs => by
 obtain rfl := rv.wI
 obtain ⟨_, rfl, ra⟩ := rvs.c1
 have fin : ∀ {l : Addr} {T : String} {o : Obj} {items : Array Value} {k : Nat}, (T = "list" ∨ T = "tuple") -> s.heap.get? l = some o -> o.cls = .type T -> o.data = .seq items k -> zad B items.toList xs -> PW F (call (.type "list") [.ref l]) RelV B s Q := by
  intro l T o items k hT ho hc hd hr
  have h1 := hr.length
  rw [Array.length_toList] at h1
  refine call_list_seq l hT ho hc hd (fun h' c' hk hn => ?_) (by rw [h1, sizeLine_eq]; lia)
  exact Post.pure (.ref _) (R.newL (s' := { s with heap := h' }) (a := s.heap.objs.size) (items := items) (n := c') (Nat.le_refl _) hk hn hr rfl rfl) (q _ (R.fresh_H (R.fresh (Nat.le_refl _)).1))
 rcases ex with ex | rfl
 ·obtain ⟨l, items, m, rfl, hl, hr⟩ := zcb R ra ex
  exact fin (.inl rfl) hl rfl rfl hr
 ·cases ra with | tup hb hr => exact fin (.inr rfl) (R.keep _ _ hb) rfl rfl hr
theorem zhx {X : V} {xs : List V} {Q : V -> Loc -> Hp -> Prop} (ex : asL H X = some xs) (hz : xs.length ≤ 1000000) (q : Q (.tup xs) loc H) : Call F (.raw (.type "tuple")) [X] loc H Q := fun B s v vs R rv rvs => by
 obtain rfl := rv.wI
 obtain ⟨_, rfl, ra⟩ := rvs.c1
 obtain ⟨l, items, m, rfl, hl, hr⟩ := zcb R ra ex
 have h1 := hr.length
 rw [Array.length_toList] at h1
 refine call_tuple_list hl.isList (fun h' hk => ?_) (by rw [h1, sizeLine_eq]; lia)
 have R1 : FRel F B loc H { s with heap := h' } := R.grow (s' := { s with heap := h' }) hk rfl rfl
 obtain ⟨R5, le5, e5⟩ := R1.hold (s' := { s with heap := h'.push (zd9 items 0) }) (a := h'.objs.size) (o := zd9 items 0) (Nat.le_refl _) (fun b o e => Heap.get?_push_of_some _ e) (Heap.get?_push_size _ rfl) rfl rfl
 exact (Post.pure (.tup e5 (hr.mono le5)) R5 q).lift le5
theorem zjq {d : Addr} {kvs : List (Str × V)} (e : H.D d = some kvs) : ∀ B s v, FRel F B loc H s -> RelV B v (.ref d) -> s.TypeIs v "dict" ∧ (∀ a, v = .ref a -> ∃ ob, s.heap.get? a = some ob ∧ ob.dict = none) := fun B s v R r => by
 obtain rfl := r.rI
 obtain ⟨cs, ⟨o, es, ep, h1, ⟨h2, h3, h4⟩, h5⟩, _⟩ := zcp R e
 exact ⟨⟨o, h1, h2⟩, fun a e => by cases e; exact ⟨o, h1, h3⟩⟩
theorem zde {d : Addr} {kvs : List (Str × V)} {Q : V -> List V -> Loc -> Hp -> Prop} (e : H.D d = some kvs) (q : Q (.raw (.builtin "dict.get")) [.ref d] loc H) : MGet F "get" (.ref d) loc H Q :=
 zgt PySem.F.plainAttrs_dict PySem.F.slot_dict_get PySem.F.type_dict_get (zjq e) q
theorem zn7 {d : Addr} {kvs : List (Str × V)} {k : Str} {Q : V -> Loc -> Hp -> Prop} (e : H.D d = some kvs) (q : Q ((dget kvs k).getD .none) loc H) : Call F (.raw (.builtin "dict.get")) [.ref d, .str k] loc H Q := fun B s v vs R rv rvs => by
 obtain rfl := rv.wI
 obtain ⟨_, _, rfl, ra, r2⟩ := rvs.cI
 obtain ⟨_, _, rfl, rb, r3⟩ := r2.cI
 obtain rfl := r3.eI; obtain rfl := ra.rI; obtain ⟨_, rfl, _⟩ := rb.sI
 obtain ⟨cs, h1, h2, h3⟩ := zcp R e
 have h4 := h2.get (k := k)
 refine call_meetsIn PySem.F.slot_dict_get h1.typeIs PySem.F.entry_dict_get (PySem.F.args_dict_get_2 _ _) (meets_dict_get (PySem.strKind F.c.prog F.c.w) d (za5 _ _) h3) ⟨_, h1.mapOf, ?_⟩
 refine Post.pure (b := (dget kvs k).getD .none) ?_ (R.tok _) q
 show RelV B ((valueAt cs k).getD .none) _
 cases e1 : valueAt cs k <;> cases e2 : dget kvs k <;> rw [e1, e2] at h4
 ·exact .none
 ·exact h4.elim
 ·exact h4.elim
 ·exact h4
set_option tactic.hygienic true in
theorem zdf {d : Addr} {kvs : List (Str × V)} {k : Str} {Z : V} {Q : V -> Loc -> Hp -> Prop} (e : H.D d = some kvs) (q : Q ((dget kvs k).getD Z) loc H) : Call F (.raw (.builtin "dict.get")) [.ref d, .str k, Z] loc H Q := fun B s v vs R rv rvs => by
 obtain rfl := rv.wI
 obtain ⟨_, _, rfl, ra, r2⟩ := rvs.cI
 obtain ⟨_, _, rfl, rb, r3⟩ := r2.cI
 obtain ⟨_, _, rfl, rc, r4⟩ := r3.cI
 obtain rfl := r4.eI; obtain rfl := ra.rI; obtain ⟨_, rfl, _⟩ := rb.sI
 obtain ⟨cs, h1, h2, h3⟩ := zcp R e
 have h4 := h2.get (k := k)
 refine call_meetsIn PySem.F.slot_dict_get h1.typeIs PySem.F.entry_dict_get (PySem.F.args_dict_get_3 _ _ _) (meets_dict_get_default (PySem.strKind F.c.prog F.c.w) d (za5 _ _) h3 _) ⟨_, h1.mapOf, ?_⟩
 refine Post.pure (b := (dget kvs k).getD Z) ?_ (R.tok _) q
 rename_i vz _ _
 show RelV B ((valueAt cs k).getD vz) _
 cases e1 : valueAt cs k <;> cases e2 : dget kvs k <;> rw [e1, e2] at h4
 ·exact rc
 ·exact h4.elim
 ·exact h4.elim
 ·exact h4
theorem zhy {B : Keep} : ∀ {vs : List Value} {ss : List Str}, zad B vs (ss.map .str) -> StrsAre vs ss ∧ ∀ x ∈ ss, PyData.strOk x = true
 | _, [], r => by cases r; exact ⟨.nil, fun J h => nomatch h⟩
 | _, x :: ss, r => by
  cases r with | cons a r => ?_
  cases a with | str _ t hk => ?_
  obtain ⟨h1, h2⟩ := zhy r
  exact ⟨.cons _ _ h1, fun y hy => by cases hy with | head _ => exact hk | tail _ hy => exact h2 y hy⟩
theorem zhz {B : Keep} : ∀ {vs : List Value} {ss : List Str}, StrsAre vs ss -> (∀ x ∈ ss, PyData.strOk x = true) -> zad B vs (ss.map .str)
 | _, _, .nil, _ => .nil
 | _, _, .cons y t r, h => .cons (.str _ _ (h y (.head _))) (zhz r fun x hx => h x (.tail _ hx))
theorem zey {X : V} {ss : List Str} {Q : V -> Loc -> Hp -> Prop} (e : asL H X = some (ss.map .str)) (hz : ss.length < 64) (q : ∀ ss' : List Str, ss'.Perm ss -> sortedS ss' = true -> Q (.list (ss'.map .str)) loc H) : Call F (.raw (.builtin "sorted")) [X] loc H Q := fun B s v vs R rv rvs => by
 obtain rfl := rv.wI
 obtain ⟨_, rfl, ra⟩ := rvs.c1
 obtain ⟨l, items, m, rfl, hl, hr⟩ := zcb R ra e
 obtain ⟨hS, hok⟩ := zhy hr
 have hlen := hr.length
 refine sorted_strs (vs := items.toList) (by rw [Array.toArray_toList]; exact hl.isList) hS (by rw [hlen]; simpa using hz) fun out ss' h1 h2 h3 => ?_
 obtain ⟨ep, hat⟩ := sortedAll_at s.heap items.toList out
 refine zex (P := Post F RelV B Q) (vs := out.toList) (s' := { s with heap := sortedAll s.heap items.toList out }) (k := ep) R (zhz h1 fun x hx => hok x (h2.subset hx)) (Nat.le_succ _) (fun b o hb => sortedAll_old hb) (by rw [Array.toArray_toList]; exact hat) rfl rfl fun B' le' r' R' => ?_
 exact (Post.pure r' R' (q ss' h2 h3)).lift le'
end
noncomputable abbrev zmo : Heap := { objs := #[] }
theorem zg3 (a : Addr) : zmo.get? a = none := by
 cases h : zmo.get? a with
 | none => rfl
 | some o => have := Heap.lt_size h; exact absurd this (Nat.not_lt_zero _)
section
variable {c : Base} {L : Addr} {nm : List (Str × NameKind)} {B : Keep} {loc : Loc} {H : Hp} {s : Shared}
theorem Rel.slots (R : Rel c L nm B loc H s) {S : List Addr} {h' : Heap} (hS : ∀ b ∈ S, b = L ∨ ∃ p ∈ c.saved, p.1 = b ∧ ∃ es ep, p.2.data = .dict es ep) (hs : Heap.SlotsOnly S s.heap h') : Rel c L nm B loc H { s with heap := h' } where
 keep := fun a o e => by
  rw [hs.2.1 a ?_]; exact R.keep a o e
  intro hm
  rcases hS a hm with rfl | ⟨p, hp, rfl, _⟩
  ·rw [R.lB] at e; cases e
  ·rw [(R.sv p hp).2.1] at e; cases e
 based := R.based
 own := fun a => by
  by_cases hw : H.Own a
  ·have hn : a ∉ S := fun hm => by
    rcases hS a hm with rfl | ⟨p, hp, rfl, _⟩
    ·exact R.lH hw
    ·exact (R.sv p hp).2.2.1 hw
   exact (R.own a).mono (Le.refl _) (fun o e => (hs.2.1 a hn).trans e) fun h => ((R.own a).out h).1
  ·obtain ⟨d1, d2, d3, d4, d5, d6⟩ := zbj hw
   refine ⟨fun h => absurd h hw, ?_, ?_, ?_, ?_, ?_, ?_, fun J => d3, fun ep e => ?_⟩
   ·intro y hy; rw [d1] at hy; cases hy
   ·intro y hy; rw [d2] at hy; cases hy
   ·intro y hy; rw [d3] at hy; cases hy
   ·intro y hy; rw [d4] at hy; cases hy
   ·intro y hy; rw [d5] at hy; cases hy
   ·intro y hy; rw [d6] at hy; cases hy
   ·exact absurd (.inr (.inl ((R.own a).g ep e).1)) hw
 lB := R.lB
 lH := R.lH
 ns := by
  obtain ⟨m, ⟨oL, es, ep, q, d, z⟩, l⟩ := R.ns
  obtain ⟨sl, e⟩ := hs.2.2 _ _ q
  exact ⟨m, ⟨_, es, ep, e, d, z⟩, l⟩
 gens := R.gens
 os := R.os
 lim := R.lim
 sv := fun p hp => by
  obtain ⟨⟨ob, x1, y1⟩, x2, x3, x4⟩ := R.sv p hp
  by_cases hm : p.1 ∈ S
  ·obtain ⟨sl, e⟩ := hs.2.2 _ _ x1
   refine ⟨⟨_, e, ?_⟩, x2, x3, x4⟩
   rcases hS _ hm with h | ⟨p', hp', e', es, ep, hd⟩
   ·exact absurd h x4
   ·obtain ⟨⟨ob', x1', y1'⟩, _⟩ := R.sv p' hp'
    rw [e', x1] at x1'; cases x1'
    have hdd := (y1'.dict hd).trans hd
    rcases y1 with y1 | ⟨_, ps, rfl⟩
    ·exact .inl ⟨y1.1, fun hn => absurd (y1.1.symm.trans hdd) (hn es ep)⟩
    ·cases hdd
  ·exact ⟨⟨ob, (hs.2.1 _ hm).trans x1, y1⟩, x2, x3, x4⟩
end
section
variable {M : Model} {A : Around} {E : Value -> Shared -> Prop} {s : Shared}
theorem zg4 {env : Env} {outer : List Env} {L e : Addr} {oe : Obj} {vs : Array Value} {Q : Unit -> Shared -> Prop} (hfr : A.frames = some (env :: outer)) (hl : s.heap.FunFrames zmo (env :: outer)) (hf : env.frame = some L)
  (he : s.heap.get? e = some oe) (hd : oe.data = .fields vs) (h1 : vs[1]? = some .none) (heS : e ∉ (env :: outer).filterMap (·.frame))
  (h : ∀ h₁ h' T oT ts, Heap.SlotsOnly ((env :: outer).filterMap (·.frame)) s.heap h₁ -> h₁.get? T = none -> (∀ b o, b ≠ e -> h₁.get? b = some o -> h'.get? b = some o) -> h'.get? e = some (oe.mapFields (·.setIfInBounds 1 (.ref T))) →
   h'.get? T = some oT -> oT.data = .fields ts -> ts[3]? = some (rawInt L) -> Q () { s with heap := h' }) :
  wpAny M A (noteFrame (.ref e) env) Q E s := by
 have hsz : 1 < vs.size := (Array.getElem?_eq_some_iff.mp h1).1
 unfold noteFrame
 simp only [hf]
 refine wpAny_bind (wpAny_field he hd h1 ?_)
 rw [if_neg (by decide)]
 refine wpAny_bind (wpAny_frameOf_fun hfr hl hf fun h₁ hs₁ => ?_)
 refine wpAny_bind (wpAny_entryPlaceOf fun pl hpl => ?_)
 unfold EntryCells.newEntry newFields
 refine wpAny_bind (wpAny_newObj_type ?_ (hpl.sizeOk5 _ _ _ _ _))
 have he₁ : h₁.get? e = some oe := (hs₁.2.1 e heS).trans he
 have he₂ := Heap.get?_push_of_some (h := h₁) { cls := .type "traceback", dict := none, data := .fields ([Value.none, .ref L, .none, rawInt L, .none] ++ (if pl.isEmpty then List.replicate 6 Value.none else pl)).toArray } he₁
 refine wpAny_setField he₂ hd hsz ?_
 have hTe : h₁.objs.size ≠ e := Nat.ne_of_gt (Heap.lt_size he₁)
 have hd₃ := Obj.data_mapFields hd (·.setIfInBounds 1 (Value.ref h₁.objs.size))
 refine h h₁ _ h₁.objs.size { cls := .type "traceback", dict := none, data := .fields ([Value.none, .ref L, .none, rawInt L, .none] ++ (if pl.isEmpty then List.replicate 6 Value.none else pl)).toArray } _ hs₁ (Heap.get?_none_of_le (Nat.le_refl _)) (fun b o hbe hb => ?_) (Heap.get?_update_self _ he₂ (Obj.isFreed_of_fields hd₃)) ?_ rfl (by simp)
 ·rw [Heap.get?_update_other _ _ (Ne.symm hbe)]
  exact Heap.get?_push_of_some _ hb
 ·rw [Heap.get?_update_other _ _ (Ne.symm hTe)]
  exact Heap.get?_push_size h₁ rfl
end
section
variable {F : Fx} {n : Nat} {loc : Loc} {H : Hp}
noncomputable def zeq (F : Fx) (B : Keep) (H : Hp) (a : Addr) : Prop := B a = none ∧ ¬ H.Own a ∧ a ≠ F.L ∧ ∀ p ∈ F.c.saved, p.1 ≠ a
noncomputable def zmp (F : Fx) (B : Keep) (loc : Loc) (H : Hp) (cls : Value) (e : Value) (s : Shared) : Prop :=
 FRel F B loc H s ∧ ∃ a ob vs, e = .ref a ∧ s.heap.get? a = some ob ∧ ob.cls = cls ∧ ob.data = .fields vs ∧ vs[1]? = some .none ∧ zeq F B H a
theorem zit {k : Str} {d : Addr} {kvs : List (Str × V)} {Q : V -> Loc -> Hp -> Prop} (hh : F.A.handled = none) (e : H.D d = some kvs) (hx : dget kvs k = none) (hE : ∀ B s e, zmp F B loc H (.type "KeyError") e s -> F.E e s) : Sub F (.ref d) (.str k) loc H Q := fun B s o i R ro ri => by
 obtain rfl := ro.rI; obtain ⟨_, rfl, _⟩ := ri.sI
 obtain ⟨cs, h1, h2, h3⟩ := zcp R e
 have h4 := h2.get (k := k)
 rw [hx] at h4
 cases e5 : valueAt cs k with
 | some v => rw [e5] at h4; exact h4.elim
 | none =>
  refine ⟨"dict", _, slot_dict_getitem.lookup, h1.typeIs, wpAny_getItem_missing_of (za5 _ _) h3 hh h1.mapOf e5 fun h' ex ⟨n1, n2, ob, t, n3, n4, n5⟩ => ?_⟩
  exact hE B _ _ ⟨R.grow (s' := { s with heap := h', toks := s.toks + 1 }) n1 rfl rfl, ex, ob, _, rfl, n3, n4, n5, rfl, R.nobody n2⟩
theorem zd2 (ok : Ok F n) {outer : List Env} (hA : F.A.frames = some (F.env :: outer)) {B : Keep} {s : Shared} (R : FRel F B loc H s) : s.heap.FunFrames zmo (F.env :: outer) ∧ ∀ b ∈ (F.env :: outer).filterMap (·.frame), b = F.L ∨ ∃ p ∈ F.c.saved, p.1 = b ∧ ∃ es ep, p.2.data = .dict es ep := by
 obtain ⟨fl, h1, h2⟩ := ok.fr
 rw [hA] at h1
 cases h1
 generalize F.env :: outer = l at h2
 clear hA
 constructor
 ·induction l with
  | nil => trivial
  | cons e l ih =>
   obtain ⟨g1, g2⟩ := h2 e (.head _)
   refine ⟨g1, ?_, ih fun e he => h2 e (.tail _ he)⟩
   rcases g2 with g2 | ⟨p, hp, g2, es, ep, g3⟩
   ·obtain ⟨m, ⟨oL, es, ep, q, d, z⟩, _⟩ := R.ns
    exact ⟨_, oL, g2, zg3 _, q, fun vs h => by rw [d] at h; cases h⟩
   ·obtain ⟨⟨ob, x1, y1⟩, _⟩ := R.sv p hp
    exact ⟨_, ob, g2, zg3 _, x1, fun vs h => by rw [y1.dict g3, g3] at h; cases h⟩
 ·intro b hb
  obtain ⟨e, he, hf⟩ := List.mem_filterMap.mp hb
  obtain ⟨g1, g2⟩ := h2 e he
  rcases g2 with g2 | ⟨p, hp, g2, es, ep, g3⟩
  ·exact .inl (Option.some.inj (hf.symm.trans g2))
  ·exact .inr ⟨p, hp, Option.some.inj (g2.symm.trans hf), es, ep, g3⟩
end
section
variable {F : Fx} {n : Nat} {loc : Loc} {H : Hp}
noncomputable def Fly (F : Fx) (b : Bool) (B : Keep) (loc : Loc) (H : Hp) (cls : Value) (e : Value) (s : Shared) : Prop :=
 FRel F B loc H s ∧ ∃ a ob vs, e = .ref a ∧ s.heap.get? a = some ob ∧ ob.cls = cls ∧ ob.data = .fields vs ∧ zeq F B H a ∧
  ((b = false ∧ vs[1]? = some .none) ∨ ∃ T oT ts, vs[1]? = some (.ref T) ∧ T ≠ a ∧ s.heap.get? T = some oT ∧ oT.data = .fields ts ∧ 3 < ts.size ∧ zeq F B H T)
theorem zmp.fly {B : Keep} {cls e : Value} {s : Shared} (h : zmp F B loc H cls e s) : Fly F false B loc H cls e s :=
 let ⟨R, a, ob, vs, h1, h2, h3, h4, h5, h6⟩ := h; ⟨R, a, ob, vs, h1, h2, h3, h4, h6, .inl ⟨rfl, h5⟩⟩
theorem Fly.typeIs {b : Bool} {B : Keep} {e : Value} {s : Shared} {C : String} (h : Fly F b B loc H (.type C) e s) : s.TypeIs e C :=
 let ⟨_, a, ob, _, h1, h2, h3, _⟩ := h; by subst h1; exact ⟨ob, h2, h3⟩
theorem zeq.free {B : Keep} {s s' : Shared} (R : FRel F B loc H s) {X : List Addr} (hX : ∀ a ∈ X, zeq F B H a) (hk : ∀ b o, b ∉ X -> s.heap.get? b = some o -> s'.heap.get? b = some o) (hg : s'.gens = s.gens) (ho : s'.os = s.os) : FRel F B loc H s' :=
 R.free (fun a => a ∈ X) (fun a h => hX a h) hk hg ho
theorem zhn {M : Model} {A : Around} {E : Value -> Shared -> Prop} {s : Shared} {f : Option Addr} {e T : Addr} {oe oT : Obj} {vs ts : Array Value} {Q : Unit -> Shared -> Prop} (he : s.heap.get? e = some oe) (hd : oe.data = .fields vs) (h1 : vs[1]? = some (.ref T))
  (hT : s.heap.get? T = some oT) (hdT : oT.data = .fields ts) (hsz : 3 < ts.size) (hf : f ≠ none ∨ True) (h : ∀ x, Q () { s with heap := s.heap.update T (Obj.mapFields (·.setIfInBounds 3 x)) }) : wpAny M A (setFlight (.ref e) f) Q E s := by
 unfold setFlight
 refine wpAny_bind (wpAny_field he hd h1 ?_)
 rw [if_pos (show (Value.ref T != Value.none) = true from by simp)]
 exact wpAny_setField hT hdT hsz (h _)
theorem Fly.flight {A : Around} {E : Value -> Shared -> Prop} {B : Keep} {cls e : Value} {s : Shared} {f : Option Addr} {Q : Unit -> Shared -> Prop} (h : Fly F true B loc H cls e s) (q : ∀ s', Fly F true B loc H cls e s' -> Q () s') : wpAny F.M A (setFlight e f) Q E s := by
 obtain ⟨R, a, ob, vs, rfl, h2, h3, h4, h6, h7⟩ := h
 rcases h7 with ⟨h, _⟩ | ⟨T, oT, ts, h7, h8, h9, h10, h11, h12⟩
 ·cases h
 ·refine zhn h2 h4 h7 h9 h10 h11 (.inr trivial) fun x => q _ ?_
  have hd := Obj.data_mapFields h10 (·.setIfInBounds 3 x)
  refine ⟨zeq.free R (X := [T]) (by simpa using h12) (fun b o hb q => (Heap.get?_update_other _ _ (fun e => hb (by simp [e]))).trans q) rfl rfl, a, ob, vs, rfl, (Heap.get?_update_other _ _ h8).trans h2, h3, h4, h6, .inr ⟨T, _, _, h7, h8, Heap.get?_update_self _ h9 (Obj.isFreed_of_fields hd), hd, by simpa using h11, h12⟩⟩
theorem Fly.note (ok : Ok F n) (tp : Top F) {E : Value -> Shared -> Prop} {b : Bool} {B : Keep} {cls e : Value} {s : Shared} {Q : Unit -> Shared -> Prop} (h : Fly F b B loc H cls e s) (q : ∀ s', Fly F true B loc H cls e s' -> Q () s') : wpAny F.M F.A (noteFrame e F.env) Q E s := by
 obtain ⟨R, a, ob, vs, rfl, h2, h3, h4, h6, h7⟩ := h
 obtain ⟨outer, t1, t2⟩ := tp
 have hnot : ∀ {x}, zeq F B H x -> x ∉ (F.env :: outer).filterMap (·.frame) := fun hx hm => by
  rcases (zd2 ok t1 R).2 _ hm with e | ⟨p, hp, e, _⟩
  ·exact hx.2.2.1 e
  ·exact hx.2.2.2 p hp e
 rcases h7 with ⟨_, h7⟩ | ⟨T, oT, ts, h7, h8, h9, h10, h11, h12⟩
 ·refine zg4 t1 (zd2 ok t1 R).1 t2 h2 h4 h7 (hnot h6) fun h₁ h' T oT ts g1 g2 g3 g4 g5 g6 g7 => q _ ?_
  have R1 := R.slots (zd2 ok t1 R).2 g1
  have nT := R1.nobody (a := T) g2
  have hTa : T ≠ a := by
   rintro rfl
   have := g1.2.1 _ (hnot h6)
   rw [g2, h2] at this; cases this
  have hd := Obj.data_mapFields h4 (·.setIfInBounds 1 (.ref T))
  have hlt : 1 < vs.size := (Array.getElem?_eq_some_iff.mp h7).1
  exact ⟨zeq.free (s := { s with heap := h₁ }) (s' := { s with heap := h' }) R1 (X := [a]) (by simpa using h6) (fun b o hb q => g3 b o (by simpa using hb) q) rfl rfl, a, _, _, rfl, g4, (Obj.cls_mapFields ..).trans h3, hd, h6, .inr ⟨T, oT, ts, by simp [hlt], hTa, g5, g6, (Array.getElem?_eq_some_iff.mp g7).1, nT⟩⟩
 ·unfold noteFrame
  simp only [t2]
  refine wpAny_bind (wpAny_field h2 h4 h7 ?_)
  rw [if_pos (show (Value.ref T != Value.none) = true from by simp)]
  refine wpAny_bind (wpAny_field h9 h10 (x := ts[3]) (by simp [h11]) ?_)
  have here : Fly F true B loc H cls (.ref a) s := ⟨R, a, ob, vs, rfl, h2, h3, h4, h6, .inr ⟨T, oT, ts, h7, h8, h9, h10, h11, h12⟩⟩
  split
  ·exact wpAny_pure (q _ here)
  ·refine wpAny_bind (wpAny_setField h9 h10 h11 ?_)
   generalize hs1 : ({ s with heap := s.heap.update T (Obj.mapFields (·.setIfInBounds 3 .none)) } : Shared) = s1
   have hd := Obj.data_mapFields h10 (·.setIfInBounds 3 Value.none)
   have R1 : FRel F B loc H s1 := by
    subst hs1
    exact zeq.free R (X := [T]) (by simpa using h12) (fun b o hb q => (Heap.get?_update_other _ _ (fun e => hb (by simp [e]))).trans q) rfl rfl
   have k2 : s1.heap.get? a = some ob := by subst hs1; exact (Heap.get?_update_other _ _ h8).trans h2
   refine wpAny_bind (wpAny_frameOf_fun t1 (zd2 ok t1 R1).1 t2 fun h₁ hs₁ => ?_)
   refine wpAny_bind (wpAny_entryPlaceOf fun pl hpl => ?_)
   unfold EntryCells.newEntry newFields
   refine wpAny_bind (wpAny_newObj_type ?_ (hpl.sizeOk5 _ _ _ _ _))
   have R2 := R1.slots (zd2 ok t1 R1).2 hs₁
   have he₁ : h₁.get? a = some ob := (hs₁.2.1 a (hnot h6)).trans k2
   have he₂ := Heap.get?_push_of_some (h := h₁) { cls := .type "traceback", dict := none, data := .fields ([Value.ref T, .ref F.L, .none, rawInt F.L, .none] ++ (if pl.isEmpty then List.replicate 6 Value.none else pl)).toArray } he₁
   have hlt : 1 < vs.size := (Array.getElem?_eq_some_iff.mp h7).1
   refine wpAny_setField he₂ h4 hlt (q _ ?_)
   have hTe : h₁.objs.size ≠ a := Nat.ne_of_gt (Heap.lt_size he₁)
   have hd₃ := Obj.data_mapFields h4 (·.setIfInBounds 1 (Value.ref h₁.objs.size))
   have nT := R2.nobody (a := h₁.objs.size) (Heap.get?_none_of_le (Nat.le_refl _))
   refine ⟨zeq.free (s := { s1 with heap := h₁ }) R2 (X := [a]) (by simpa using h6) (fun b o hb q => ?_) rfl rfl, a, _, _, rfl, Heap.get?_update_self _ he₂ (Obj.isFreed_of_fields hd₃), (Obj.cls_mapFields ..).trans h3, hd₃, h6, .inr ⟨h₁.objs.size, _, _, by simp [hlt], hTe, (Heap.get?_update_other _ _ (Ne.symm hTe)).trans (Heap.get?_push_size h₁ rfl), rfl, by simp, nT⟩⟩
   have hb' : b ≠ a := by simpa using hb
   rw [Heap.get?_update_other _ _ (Ne.symm hb')]
   exact Heap.get?_push_of_some _ q
noncomputable def Acc (F : Fx) (cls : Value) (P : Loc -> Hp -> Prop) : Prop := ∀ b B l H e s, Fly F b B l H cls e s -> P l H -> F.E e s
theorem Acc.raised {cls : Value} {P : Loc -> Hp -> Prop} (h : Acc F cls P) {B : Keep} {e : Value} {s : Shared} (r : zmp F B loc H cls e s) (p : P loc H) : F.E e s := h _ _ _ _ _ _ r.fly p
theorem zas.lo {c : Base} {B : Keep} {h : Heap} {H : Hp} {a : Addr} {lo : Keep} (x : zas c B h H a) : zas { c with lo := lo } B h H a := ⟨x.out, x.l, x.d, x.p, x.s, x.i, x.c, x.dp, x.g⟩
theorem zas.unlo {c : Base} {B : Keep} {h : Heap} {H : Hp} {a : Addr} {lo : Keep} (x : zas { c with lo := lo } B h H a) : zas c B h H a := ⟨x.out, x.l, x.d, x.p, x.s, x.i, x.c, x.dp, x.g⟩
theorem Rel.floor {c : Base} {L : Addr} {nm : List (Str × NameKind)} {B : Keep} {loc : Loc} {H : Hp} {s : Shared} (R : Rel c L nm B loc H s) : Rel { c with lo := B } L nm B loc H s :=
 ⟨R.keep, ⟨fun a o e => R.based.2 _ _ (R.based.1 _ _ e), Le.refl _⟩, fun a => (R.own a).lo, R.lB, R.lH, R.ns, R.gens, R.os, R.lim, R.sv⟩
theorem Rel.unfloor {c : Base} {L : Addr} {nm : List (Str × NameKind)} {B : Keep} {loc : Loc} {H : Hp} {s : Shared} {lo : Keep} (R : Rel { c with lo := lo } L nm B loc H s) (h1 : ∀ a o, c.base.get? a = some o -> c.lo a = some o) (h2 : Le c.lo lo) : Rel c L nm B loc H s :=
 ⟨R.keep, ⟨h1, h2.trans R.based.2⟩, fun a => (R.own a).unlo, R.lB, R.lH, R.ns, R.gens, R.os, R.lim, R.sv⟩
noncomputable abbrev Fx.tryF (F : Fx) (lo : Keep) (E : Value -> Shared -> Prop) : Fx := { F with c := { F.c with lo := lo }, E := E }
noncomputable abbrev Fx.exF (F : Fx) (e : Value) (E : Value -> Shared -> Prop) : Fx := { F with A := F.A.mark (some e), E := E }
theorem Fly.through {t : Expr} {B : Keep} {cls e : Value} {s : Shared} {PX : V -> Prop} {P : Value -> Shared -> Prop} (f : Fly F true B loc H cls e s) (h : WE F t loc H fun X l' H' => l' = loc ∧ H' = H ∧ PX X)
  (k : ∀ c X B4 Bx s4, Le B B4 -> Fly F true B4 loc H cls e s4 -> RelV Bx c X -> PX X -> P c s4) : wpAny F.M F.A (eval t F.env) P F.E s := by
 obtain ⟨R, a, ob, vs, rfl, h2, h3, h4, h6, h7⟩ := f
 rcases h7 with ⟨z, _⟩ | ⟨T, oT, ts, h7, h8, h9, h10, h11, h12⟩
 ·cases z
 obtain ⟨R1, le1⟩ := R.take h2 h6.1 h6.2.1 h6.2.2.1 h6.2.2.2
 obtain ⟨R2, le2⟩ := R1.take h9 (by unfold addB; rw [if_neg h8]; exact h12.1) h12.2.1 h12.2.2.1 h12.2.2.2
 refine (h _ s R2).then fun c B4 X l4 H4 s4 le4 rc R4 ⟨hl, hH, hx⟩ => ?_
 subst hl; subst hH
 have k1 : B4 a = some ob := le4 _ _ (le2 _ _ (by simp [addB]))
 have k2 : B4 T = some oT := le4 _ _ (by simp [addB])
 have la : F.c.lo a = none := zbo R.based.2 h6.1
 have lT : F.c.lo T = none := zbo R.based.2 h12.1
 have R5 := R4.dropIt k1 h4 la (s' := s4) (fun b o J q => q) rfl rfl
 have k3 : za4 B4 a T = some oT := by rw [zbx h8]; exact k2
 have R6 := R5.dropIt k3 h10 lT (s' := s4) (fun b o J q => q) rfl rfl
 have na := R4.kept k1
 have nT := R4.kept k2
 refine k c X _ B4 s4 (zbz (zbz ((le1.trans le2).trans le4) h6.1) h12.1) ⟨R6, a, ob, vs, rfl, R4.keep _ _ k1, h3, h4, ⟨?_, na⟩, .inr ⟨T, oT, ts, h7, h8, R4.keep _ _ k2, h10, h11, ⟨?_, nT⟩⟩⟩ rc hx
 ·rw [zbx (Ne.symm h8)]; simp [za4]
 ·simp [za4]
theorem ztu (ok : Ok F n) (tp : Top F) {body : List Stmt} {b0 : Stmt} {suite : List Stmt} {t : Expr} {hpos pos : Pos} {cls tv : Value} {Q : Fl -> Loc -> Hp -> Prop} (PX : Loc -> Hp -> Prop)
  (hm : ∀ {A : Around} {E : Value -> Shared -> Prop} {B l H} {s : Shared} {e : Value} {b : Bool} {Q : Bool -> Shared -> Prop}, Fly F b B l H cls e s -> Q true s -> wpAny F.M A (excMatches e tv) Q E s)
  (ht : ∀ e E l H, Ok (F.exF e E) 0 -> WE (F.exF e E) t l H fun X l' H' => l' = l ∧ H' = H ∧ ∀ B v, RelV B v X -> v = tv)
  (hbody : ∀ lo E, Ok (F.tryF lo E) n -> Top (F.tryF lo E) -> Acc (F.tryF lo E) cls PX -> WSs (F.tryF lo E) body loc H Q)
  (hhandler : ∀ e E l H, Ok (F.exF e E) 0 -> PX l H -> WSs (F.exF e E) (b0 :: suite) l H Q) :
  WS F (.Try body [.ExceptHandler (some t) none (b0 :: suite) hpos] [] [] pos) loc H Q := fun B s R => by
 refine wpAny_Try_except ?_
 generalize hE : (fun e s₁ => wpAny F.M F.A (noteFrame e F.env) (fun J s₂ => wpAny F.M F.A (setFlight e none) (fun J s₃ => wpAny F.M F.A (handleBy e F.env [.ExceptHandler (some t) none (b0 :: suite) hpos]) (Post F RelF B Q) F.E s₃) F.E s₂) F.E s₁) = E'
 have okB : Ok (F.tryF B E') n := ⟨ok.fn, ok.glob, ok.bi, ok.dbg, ok.units, ok.depth, ok.handled, ok.fr⟩
 have tpB : Top (F.tryF B E') := tp
 have okH : ∀ e E, Ok (F.exF e E) 0 := fun e E => ⟨ok.fn, ok.glob, ok.bi, ok.dbg, by have := ok.units; show F.A.units + 40 * 0 + 200 < cLine; lia, by have := ok.depth; show F.A.depth + 4 * 0 + 4 < recursionLimit; lia, fun h => absurd rfl h, ok.fr⟩
 have acc : Acc (F.tryF B E') cls PX := by
  intro b B1 l1 H1 e s1 f p
  subst hE
  have f0 : Fly F b B1 l1 H1 cls e s1 := ⟨f.1.unfloor R.based.1 R.based.2, f.2⟩
  have le : Le B B1 := f.1.based.2
  refine f0.note ok tp fun s2 f2 => f2.flight fun s3 f3 => ?_
  refine wpAny_handleBy_cons (codeAny_handlers_test ?_) (by
   obtain ⟨_, a, _, _, rfl, _⟩ := f3
   intro q; cases q)
  refine Fly.through (F := F.exF e _) f3 (ht e _ l1 H1 (okH e _)) fun c X B4 Bx s4 le4 f4 rc hv => ?_
  obtain rfl := hv _ _ rc
  refine hm f4 (codeAny_handlers_suite (Fly.flight (F := F.exF e _) f4 fun s5 f5 => ?_))
  exact wpAny_mono (hhandler e _ l1 H1 (okH e _) p B4 s5 f5.1) (fun fl s6 q => q.lift (le.trans le4)) fun J J x => x
 refine wpAny_mono (hbody B E' okB tpB acc B s R.floor) (fun fl s1 q => ?_) fun J J x => x
 have q' : Post F RelF B Q fl s1 := by
  obtain ⟨B1, b, l1, H1, le, rf, R1, q⟩ := q
  exact ⟨B1, b, l1, H1, le, rf, R1.unfloor R.based.1 R.based.2, q⟩
 cases fl <;> first | exact q' | exact wpAny_execs_nil q'
end
section
variable {prog : Program} {w : World} {A : Around} {E : Value -> Shared -> Prop} {s : Shared}
theorem zkz {Q : Int -> Shared -> Prop} (h : Q (0xFCA86420 : Int) { s with toks := s.toks + 1 }) : wpAny (model prog w) A (pyHash .none) Q E s := by
 have hT : s.TypeIs .none "NoneType" := rfl
 unfold pyHash
 first | unfold pyHashByItsType | skip
 refine wpAny_bind (wpAny_pure ?_)
 refine wpAny_bind (wpAny_specialOf hT PySem.F.slot_NoneType_hash.lookup ?_)
 show wpAny _ _ (if (some (Value.builtin "NoneType.__hash__") == some Value.none) = true then _ else _) Q E s
 rw [if_neg (by rw [beq_builtin_none]; exact Bool.false_ne_true)]
 refine wpAny_bind (wpAny_specialOf hT PySem.F.slot_NoneType_hash.lookup ?_)
 show wpAny _ _ (callSpecialIfBoundUnlessNone? .none "__hash__" _ >>= _) Q E s
 refine wpAny_bind (wpAny_callSpecialIfBoundUnlessNone?_slot hT PySem.F.slot_NoneType_hash (wpAny_call_entry PySem.F.slot_NoneType_hash hT PySem.F.entry_NoneType_hash ?_ (PySem.F.args_NoneType_hash_1 _)))
 show wpAny _ _ (retInt 0xFCA86420) _ _ s
 refine wpAny_ret_mkInt ?_
 show wpAny _ _ (if (decide (-(2 : Int) ^ 63 ≤ 0xFCA86420) && decide ((0xFCA86420 : Int) < 2 ^ 63)) = true then _ else _) Q E _
 rw [if_pos (by decide)]
 exact wpAny_pure h
theorem zgh {Q : Bool -> Shared -> Prop} (h : Q true s) : wpAny (model prog w) A (eqBool .none .none) Q E s := by
 unfold eqBool
 try with_reducible refine wpAny_holding ?_
 show wpAny _ _ (if (Value.none == Value.none) = true then _ else _) Q E s
 rw [if_pos (by rfl)]
 exact wpAny_bind (wpAny_rule (wpAny_pure h))
end
noncomputable def ztm : Option Str -> Value -> Bool
 | none, .none => true
 | some x, v => Value.isStrOf x v
 | _, _ => false
theorem zcw {v : Value} (h : ztm none v = true) : v = .none := by cases v <;> first | rfl | cases h
noncomputable def zhj (prog : Program) (w : World) : KeyKind prog w (Option Str) where
 is := ztm
 hash := fun k => match k with | none => 0xFCA86420 | some x => hashStr w x
 inj := fun v a b ha hb => by
  cases a with
  | none =>
   obtain rfl := zcw ha
   cases b with
   | none => rfl
   | some b => cases hb
  | some a =>
   obtain ⟨t, rfl⟩ := Value.isStrOf_shape ha
   cases b with
   | none => cases hb
   | some b => exact congrArg some (Value.isStrOf_inj (.str a t) a b ha hb)
 byValue := fun k v h => by
  cases k with
  | none => obtain rfl := zcw h; rfl
  | some k => obtain ⟨t, rfl⟩ := Value.isStrOf_shape h; rfl
 pyHash := fun {A E s k v Q} hv h => by
  cases k with
  | none => obtain rfl := zcw hv; exact zkz h
  | some k => obtain ⟨t, rfl⟩ := Value.isStrOf_shape hv; exact wpAny_pyHash_str h
 eqBool := fun {A E s a b u v Q} hu hv h => by
  cases a with
  | none =>
   obtain rfl := zcw hu
   cases b with
   | none => obtain rfl := zcw hv; exact zgh (by simpa using h)
   | some b => obtain ⟨t, rfl⟩ := Value.isStrOf_shape hv; exact SeqAt.EqAt.none_str b t _ _ _ _ (by simpa using h)
  | some a =>
   obtain ⟨t, rfl⟩ := Value.isStrOf_shape hu
   cases b with
   | none => obtain rfl := zcw hv; exact SeqAt.EqAt.str_none a t _ _ _ _ (by simpa using h)
   | some b => obtain ⟨t', rfl⟩ := Value.isStrOf_shape hv; exact wpAny_eqBool_str (by simpa using h)
 «strs» := fun k x t v h => by
  cases k with
  | none => cases h
  | some k =>
   obtain ⟨u, hu⟩ := Value.isStrOf_shape (x := k) (v := .str x t) h
   injection hu with hx
   subst hx
   cases v <;> rfl
section
variable {F : Fx} {n : Nat} {loc : Loc} {H : Hp}
theorem zm2 {prog : Program} {w : World} {h : Heap} {d : Addr} {cs : List (Str × Value)} (x : h.DictOf (PySem.strKind prog w) d cs) : ∃ f, h.MapOf (zhj prog w) d f ∧ f none = none := by
 obtain ⟨o, es, ep, h1, h2, h3, h4, h5⟩ := x
 refine ⟨fun k => findBy (zhj prog w).is es k, ⟨o, es, ep, h1, h2, h3, ?_, fun J => rfl⟩, ?_⟩
 ·intro e he
  obtain ⟨k, k1, k2⟩ := h4 e he
  exact ⟨some k, k1, k2⟩
 ·unfold findBy
  have : es.find? (fun e => (zhj prog w).is none e.key) = none := by
   rw [Array.find?_eq_none]
   intro e he
   obtain ⟨k, k1, k2⟩ := h4 e he
   obtain ⟨t, ht⟩ := Value.isStrOf_shape k1
   rw [ht]; simp [zhj, ztm]
  first | rw [this]; rfl | simp [this]
theorem zg5 {d : Addr} {kvs : List (Str × V)} {Z : V} {Q : V -> Loc -> Hp -> Prop} (e : H.D d = some kvs) (q : Q Z loc H) : Call F (.raw (.builtin "dict.get")) [.ref d, .none, Z] loc H Q := fun B s v vs R rv rvs => by
 obtain rfl := rv.wI
 obtain ⟨_, _, rfl, ra, r2⟩ := rvs.cI
 obtain ⟨_, _, rfl, rb, r3⟩ := r2.cI
 obtain ⟨_, _, rfl, rc, r4⟩ := r3.cI
 obtain rfl := r4.eI; obtain rfl := ra.rI; obtain rfl := rb.nI
 obtain ⟨cs, h1, h2, h3⟩ := zcp R e
 obtain ⟨f, hf, hn⟩ := zm2 h1
 refine call_meetsIn PySem.F.slot_dict_get h1.typeIs PySem.F.entry_dict_get (PySem.F.args_dict_get_3 _ _ _) (meets_dict_get_default (zhj F.c.prog F.c.w) (k := none) d rfl h3 _) ⟨_, hf, ?_⟩
 rw [hn]
 exact Post.pure (b := Z) rc (R.tok _) q
theorem zn8 {K : Frag} (hK : K.In F.c.base) {C : Addr} {fs : List (Str × V)} {name : Str} {Y : V} {Q : V -> Loc -> Hp -> Prop} (hy : dget fs name = some Y) (hr : zfk Y = true)
  (hg : plainGet K C name = true) (hh : hasDictIn K C = true) (ha : findIn K (.ref C) name = some none) (q : Q Y loc H) : GetA F name (.inst C fs) loc H Q := fun B s o R ro => by
 obtain ⟨a, d, od, es, ep, rfl, h1, h2, h3, r⟩ := ro.oI
 obtain ⟨v, e5, rv⟩ := r.get hy
 have I : InstAt s.heap a (zcm C d) C (some od) := ⟨R.keep _ _ h1, rfl, rfl, R.keep _ _ h2⟩
 exact get_value (fun a o e => R.inBase (hK a o e)) I (plainGet_of hg).1 (findObj_own hh ha rfl e5) (zjj rv hr) (Post.pure rv (R.tok _) q)
theorem zm3 {X : V} {b : Bool} {Q : Bool -> Loc -> Hp -> Prop} (hX : (match X with | .none => true | .raw _ => false | _ => false) = b) (hr : zfk X = true) (q : Q b loc H) : Cmp F .Is X .none loc H Q := fun B s v u R rv ru => by
 obtain rfl := ru.nI
 refine is_none (Post.pure ?_ R q)
 subst hX
 cases rv <;> first | rfl | cases hr
theorem zjr {Q : V -> Loc -> Hp -> Prop} (q : ∀ a, H.Fresh a -> Q (.ref a) loc (H.aS a (fun J => false, 0))) : Call F (.raw (.type "set")) [] loc H Q := fun B s v vs R rv rvs => by
 obtain rfl := rv.wI
 obtain rfl := rvs.eI
 refine call_set_0 fun led => ?_
 exact Post.pure (.ref _) (R.newS (s' := { s with heap := s.heap.push { cls := .type "set", dict := none, data := .set #[] 0 (.fresh 0 0 led) } }) (a := s.heap.objs.size) (S' := (fun J => false, 0)) (Nat.le_refl _) (fun b o e => Heap.get?_push_of_some _ e)
  ⟨_, #[], 0, .fresh 0 0 led, Heap.get?_push_size _ rfl, ⟨rfl, rfl, rfl⟩, rfl, (fun e he => by simp at he), (fun k => by simp), (by decide), rfl, rfl⟩ rfl rfl) (q _ (R.fresh_H (R.fresh (Nat.le_refl _)).1))
theorem zg6 {B : Keep} {s : Shared} (R : FRel F B loc H s) {k : Str × List Str} {a : Addr} (r : RelV B (.ref a) (ze3 k)) : zcn F.c.prog F.c.w s.heap k a := by
 unfold ze3 at r
 cases r with | @tup _ items m _ hb hr => ?_
 obtain ⟨vs⟩ := items
 cases hr with | cons r1 r2 => ?_
 cases r2 with | cons r2 r3 => ?_
 cases r3
 cases r1 with | str _ t hk => ?_
 cases r2 with | @tup a2 items2 m2 _ hb2 hr2 => ?_
 refine ⟨_, _, m, t, a2, R.keep _ _ hb, rfl, rfl, rfl, _, items2, m2, R.keep _ _ hb2, rfl, rfl, ?_⟩
 have gen : ∀ (ks : List Str) (vs : List Value), zad B vs (ks.map .str) -> ItemsAre (PySem.strKind F.c.prog F.c.w) ks vs := by
  intro ks
  induction ks with
  | nil => intro vs r; cases r; exact .nil
  | cons k ks ih =>
   intro vs r
   cases r with | cons r1 r2 => ?_
   cases r1
   exact .cons (za5 _ _) (ih _ r2)
 exact gen _ _ hr2
theorem zl3 {B : Keep} {s : Shared} (R : FRel F B loc H s) {d : Addr} {ks : List (Str × List Str)} (e : H.P d = some ks) : ∃ xs : List ((Str × List Str) × Addr × Value), s.heap.DictOfH (zdq F.c.prog F.c.w) d xs ∧ xs.map (·.1) = ks ∧ (∀ x ∈ xs, RelV B (.ref x.2.1) (ze3 x.1)) ∧ (d == sysModules) = false := by
 obtain ⟨o, es, ep, xs, h1, h2, h3, h4, h5, h6, h7⟩ := (R.own d).p ks e
 refine ⟨xs, ⟨o, es, ep, h1, h2, h3, h4, fun x hx => zg6 R (h7 x hx), by rw [h5]; exact h6⟩, h5, h7, ?_⟩
 have hw : H.Own d := .inr (.inr (.inl (by rw [e]; simp)))
 have h3 := ((R.own d).out hw).2
 have h4 := R.lim.1
 have : d ≠ 1 := Nat.ne_of_gt (Nat.lt_of_le_of_lt h4 h3)
 simpa [sysModules] using this
theorem zga {K : Type} [DecidableEq K] (xs : List (K × Addr × Value)) (k : K) : (atKey xs k).isSome = decide (k ∈ xs.map (·.1)) := by
 unfold atKey
 rw [Option.isSome_map]
 induction xs with
 | nil => rfl
 | cons x xs ih =>
  rw [List.find?_cons]
  by_cases e : x.1 = k
  ·simp [e]
  ·simp only [e, decide_false, ih]
   simp [Ne.symm e]
theorem zr4 (ok : Ok F n) {k : Str × List Str} {d : Addr} {ks : List (Str × List Str)} {Q : Bool -> Loc -> Hp -> Prop} (e : H.P d = some ks) (q : Q (decide (k ∈ ks)) loc H) : Cmp F .In (ze3 k) (.ref d) loc H Q := fun B s a b R ra rb => by
 have ra' := ra
 unfold ze3 at ra
 cases ra; obtain rfl := rb.rI
 obtain ⟨xs, h1, h2, h3, h4⟩ := zl3 R e
 refine wpAny_in_heap (knd := zdq F.c.prog F.c.w) (by have := ok.u (k := 30) (by lia); show F.A.in1.units + 1 < cLine; show F.A.units + 1 + 1 < cLine; lia) (zg6 R ra') h4 h1 (Post.pure ?_ (R.tok _) q)
 rw [zga, h2]
 exact congrArg Value.bool (decide_eq_decide.mpr Iff.rfl)
set_option tactic.hygienic true in
theorem zu2 (ok : Ok F n) {k : Str × List Str} {d : Addr} {ks : List (Str × List Str)} {Z : V} {Q : Loc -> Hp -> Prop} (e : H.P d = some ks) (eG : H.G d = none) (hnew : k ∉ ks) (hz : ks.length ≤ 100000) (q : Q loc (H.aP d (ks ++ [k]))) : Set_ F (.ref d) (ze3 k) Z loc H Q := fun B s o i v R ro ri rv => by
 have ri' := ri
 unfold ze3 at ri
 obtain rfl := ro.rI
 cases ri
 rename_i ai _ _ _ _
 obtain ⟨xs, h1, h2, h3, h4⟩ := zl3 R e
 have hno : atKey xs k = none := by
  have := zga xs k
  rw [h2] at this
  simp only [hnew, decide_false] at this
  cases z : atKey xs k with
  | none => rfl
  | some p => rw [z] at this; cases this
 have hl : xs.length = ks.length := by rw [← h2, List.length_map]
 refine wpAny_setItem_heap (knd := zdq F.c.prog F.c.w) (by have := ok.u (k := 30) (by lia); show F.A.in1.units + 1 < cLine; show F.A.units + 1 + 1 < cLine; lia) (zg6 R ri') h1 (fun h' hd' hs' => ?_) (by first | (rw [sizeLine_eq]; lia) | (rw [hl, sizeLine_eq]; lia))
 rw [storedH_new hno] at hd'
 obtain ⟨o', es', ep', g1, g2, g3, g4, g5, g6⟩ := hd'
 refine Post.pure (b := ()) trivial (R.setP (s' := { s with heap := h', toks := s.toks + (zdq F.c.prog F.c.w).draws k }) e eG (fun b o hb h => (hs'.2 b hb).trans h) g1 g2 g3 g4 (ks' := ks ++ [k]) (by simp [h2]) (by simpa [h2] using g6) ?_ rfl rfl) q
 intro x hx
 rcases List.mem_append.mp hx with hx | hx
 ·exact h3 x hx
 ·simp at hx; subst hx; exact ri'
theorem Rel.asP {c : Base} {L : Addr} {nm : List (Str × NameKind)} {B : Keep} {s : Shared} {d : Addr} (R : Rel c L nm B loc H s) (e : H.D d = some []) (eG : H.G d = none) : Rel c L nm B loc ((H.uD d).aP d []) s := by
 obtain ⟨_, cs, ⟨o, es, ep, h1, h2, h3, h4, h5, h6⟩, h7⟩ := (R.own d).d _ e
 cases h7
 have hes : es.toList = [] := by
  have := h5.length
  simpa using this
 have hw : H.Own d := .inr (.inl (zcc e))
 have y := (R.own d).noD e eG
 exact R.of_old hw (fun b o J e => e) (fun b hb => ⟨rfl, (zhm hb).symm, zcd _ _ _ hb, rfl, rfl, rfl, rfl⟩) (.ofP (xs := []) ((R.own d).out hw) ⟨y.1, zgy _ _, y.2.2.1, y.2.2.2.1, y.2.2.2.2.1, eG⟩ h1 h2 h3 hes rfl List.nodup_nil fun x hx => nomatch hx) rfl rfl
theorem zn9 {pos : Pos} {Q : V -> Loc -> Hp -> Prop} (q : ∀ a, H.Fresh a -> Q (.ref a) loc (H.aP a [])) : WE F (.Dict [] [] pos) loc H Q := fun B s R => by
 show wpAny F.M F.A (eval (.Dict [] [] pos) F.env) _ _ _
 rw [eval_Dict_empty]
 refine wpAny_bind (wpAny_standAt (zhu R fun a s' hf R' => ?_))
 have hD : H.D a = none := (zbj hf).2.1
 have hG : H.G a = none := by
  cases z : H.G a with
  | none => rfl
  | some ep => exact absurd hD ((R.own a).g ep z).1
 have R2 := R'.asP (d := a) (by simp) hG
 rw [show ((H.aD a []).uD a).aP a [] = H.aP a [] by show Hp.mk _ (un (up H.D a []) a) _ _ _ _ _ = _; rw [zjk hD]] at R2
 exact Post.pure (.ref a) R2 (q a hf)
end
section
variable {F : Fx} {n : Nat} {loc : Loc} {H : Hp}
theorem zgb {x y : Str} (hx : PyData.strOk x = true) (hy : PyData.strOk y = true) : PyData.strOk (x ++ y) = true := by
 unfold PyData.strOk at *
 show (x.cps ++ y.cps).all _ = true
 rw [Array.all_append, hx, hy]; rfl
noncomputable def WFld (F : Fx) (e : Expr) (loc : Loc) (H : Hp) (Q : Str -> Loc -> Hp -> Prop) : Prop := ∀ B s, FRel F B loc H s -> PW F (eval e F.env) (fun J v y => (∃ t, v = .str y t) ∧ PyData.strOk y = true ∧ y.length ≤ 10000) B s Q
theorem zpv {value : Expr} {pos : Pos} {Q : Str -> Loc -> Hp -> Prop} (h : WE F value loc H fun X l H => ∃ y, X = .str y ∧ y.length ≤ 10000 ∧ Q y l H) : WFld F (.FormattedValue value (-1) none pos) loc H Q := fun B s R => by
 refine FormattedValue_plain ((h B s R).then fun v B1 X l1 H1 s1 le1 r R1 ⟨y, hX, hy, q⟩ => ?_)
 subst hX
 obtain ⟨t, rfl, hk⟩ := r.sI
 refine formatField_str (fun t' tk => ?_) (by rw [sizeLine_eq]; lia)
 exact (Post.pure (b := y) ⟨⟨t', rfl⟩, hk, hy⟩ (R1.grow (s' := { s1 with toks := tk }) (fun J J e => e) rfl rfl) q).lift le1
theorem zpw {value : Expr} {pos : Pos} {Q : Str -> Loc -> Hp -> Prop} (h : WE F value loc H fun X l H => ∃ i : Int, X = .int i ∧ i.natAbs.log2 < 1920 ∧ (Str.ofString (toString i)).length ≤ 10000 ∧ Q (Str.ofString (toString i)) l H) : WFld F (.FormattedValue value (-1) none pos) loc H Q := fun B s R => by
 refine FormattedValue_plain ((h B s R).then fun v B1 X l1 H1 s1 le1 r R1 ⟨i, hX, hi, hl, q⟩ => ?_)
 subst hX
 obtain ⟨_, rfl⟩ := r.iI
 refine formatField_int_small hi ?_
 exact (Post.pure (b := Str.ofString (toString i)) ⟨⟨_, rfl⟩, zar _, hl⟩ (R1.grow (s' := { s1 with toks := s1.toks + 1 + 1 }) (fun J J e => e) rfl rfl) q).lift le1
theorem zpx {a b : Expr} {pos : Pos} {Q : V -> Loc -> Hp -> Prop} (h : WFld F a loc H fun x l1 H1 => WFld F b l1 H1 fun y l2 H2 => Q (.str (Str.empty ++ x ++ y)) l2 H2) : WE F (.JoinedStr [a, b] pos) loc H Q := fun B s R => by
 have e : ∀ x y : Str, (x ++ y).length = x.length + y.length := strLen_append
 have e0 : Str.empty.length = 0 := rfl
 refine JoinedStr_many (joinParts_cons ((h B s R).then fun v B1 x l1 H1 s1 le1 ⟨⟨t, hv⟩, hx, lx⟩ R1 h1 => ?_))
 subst hv
 refine ⟨by rw [e, e0, sizeLine_eq]; lia, joinParts_cons ((h1 B1 s1 R1).then fun v2 B2 y l2 H2 s2 le2 ⟨⟨t2, hv2⟩, hy, ly⟩ R2 q => ?_)⟩
 subst hv2
 refine ⟨by rw [e, e, e0, sizeLine_eq]; lia, joinParts_nil ((Post.pure (.str _ _ (zgb (zgb (by simp [PyData.strOk, Str.empty]) hx) hy)) (R2.tok _) q).lift (le1.trans le2)) (by rw [e, e, e0, sizeLine_eq]; lia)⟩
noncomputable def zco (F : Fx) (f : Addr) (Xs : List V) (kws : List Str) (Ws : List V) (loc : Loc) (H : Hp) (Q : V -> Loc -> Hp -> Prop) : Prop :=
 ∀ B s vs ws (RR : Result -> Shared -> Prop), FRel F B loc H s -> zad B vs Xs -> zad B ws Ws -> (∀ v s', Post F RelV B Q v s' -> RR (.ok (.ret v)) s') -> codeAny F.M F.A (.call (.ref f) ⟨vs, kws.zip ws⟩) RR s
theorem zoa (ok : Ok F (n + 1)) {f : Addr} {fd : FuncData} {body : List Stmt} {kws : List Str} {Xs Ws : List V} {bV : List (Str × V)} {Q : V -> Loc -> Hp -> Prop} (W : Fn F.c.base f fd body)
  (hbind : ∀ (vs ws : List Value) (B : Keep), zad B vs Xs -> zad B ws Ws -> Le (fun a => F.c.base.get? a) B -> ∃ bs, Looks F.M F.c.base (bindArgs fd ⟨vs, kws.zip ws⟩) bs ∧ za6 B bs bV)
  (hnd : (bV.map (·.1)).Nodup) (hloc : ∀ x ∈ bV.map (·.1), fd.scope.names.lookup x = some .local ∨ fd.scope.names.lookup x = some .cell)
  (h : ∀ sv A L E, Ok ⟨F.c.sv sv, A, callEnvC fd L f, E⟩ n -> Top ⟨F.c.sv sv, A, callEnvC fd L f, E⟩ -> (∀ x c, (x, c) ∈ cellsFrom (L + 1) fd.scope.names [] -> H.Fresh c) →
   WSs ⟨F.c.sv sv, A, callEnvC fd L f, E⟩ body (zbq fd.scope.names bV) (za7 H bV (cellsFrom (L + 1) fd.scope.names [])) fun fl J H' => Q (retV fl) loc H') : zco F f Xs kws Ws loc H Q := fun B s vs ws RR R rvs rws hR =>
 zpn ok W hbind hnd hloc (fun sv L ok' tp hf => h sv _ L _ ok' tp hf) R rvs rws hR
noncomputable abbrev Fx.under (F : Fx) (c : Code) : Fx := { F with A := F.A.under c }
theorem zk0 (args : Args) : Code.frames (.builtin "type.__call__" args) = 0 := by
 unfold Code.frames
 first | rfl | (simp; done)
theorem Ok.underC (ok : Ok F (n + 1)) {C : Addr} {vs : List Value} {kw : List (Str × Value)} : Ok (F.under (.builtin "type.__call__" ⟨.ref C :: vs, kw⟩)) n := by
 have hf := zk0 ⟨.ref C :: vs, kw⟩
 have hw : Code.weight (.builtin "type.__call__" ⟨.ref C :: vs, kw⟩) ≤ 2 := by
  unfold Code.weight
  rw [hf]
  have h1 : Code.isGuard (.builtin "type.__call__" ⟨.ref C :: vs, kw⟩) = false := by show guardIds.contains "type.__call__" = false; decide
  have h2 : Code.isCaller (.builtin "type.__call__" ⟨.ref C :: vs, kw⟩) = false := by rfl
  rw [h1, h2]
  split <;> simp
 have hu : Code.cUnits (.builtin "type.__call__" ⟨.ref C :: vs, kw⟩) = 1 := by
  show 1 + 3 * Code.frames _ = 1
  rw [hf]
 have he : Code.envs (.builtin "type.__call__" ⟨.ref C :: vs, kw⟩) = [] := by rfl
 refine ⟨ok.fn, ok.glob, ok.bi, ok.dbg, ?_, ?_, fun J => ok.handled (by lia), ?_⟩
 ·have := ok.units
  show F.A.units + Code.cUnits _ + 40 * n + 200 < cLine
  rw [hu]; lia
 ·have := ok.depth
  show F.A.depth + Code.weight _ + 4 * n + 4 < recursionLimit
  lia
 ·obtain ⟨fl, h1, h2⟩ := ok.fr
  refine ⟨fl, ?_, h2⟩
  show pushEnvs (Code.envs (.builtin "type.__call__" ⟨.ref C :: vs, kw⟩)) F.A.frames = some fl
  rw [he]; exact h1
theorem zpy (ok : Ok F (n + 1)) {K : Frag} (hK : K.In F.c.base) {C fI : Addr} {Xs : List V} {Q : V -> Loc -> Hp -> Prop} (hm : makesIn K C = true) (hi : findIn K (.ref C) "__init__" = some (some (.ref fI))) (hf : typeIn K (.ref fI) = some (.type "function"))
  (h : ∀ A' x d, Ok { F with A := A' } n -> H.Fresh x -> H.Fresh d -> d < x -> zco { F with A := A' } fI (.ref x :: Xs) [] [] loc ((H.aI x (C, d)).aD d []) fun X l H' => X = .none ∧ Q (.ref x) l H') : Call F (.ref C) Xs loc H Q := fun B s v vs R rv rvs => by
 obtain rfl := rv.rI
 obtain ⟨hh, g, dr, t, os⟩ := s
 have X : K.In hh := fun a o e => R.inBase (hK a o e)
 have Y : Makes F.M hh C := makes_of X hm
 refine wpAny_call (make_core (rest := vs) (kw := []) Y (looks_findIn X hi) (fun self => bind_fn X self hf) (.inl (by simp)) ?_)
 have R1 : FRel F B loc (H.aD hh.objs.size []) ⟨hh.push emptyDict, g, dr, t, os⟩ :=
  R.newD (s' := ⟨hh.push emptyDict, g, dr, t, os⟩) (a := hh.objs.size) (cs := []) (Nat.le_refl _) (fun b o e => Heap.get?_push_of_some _ e) (fun p hp => nomatch hp) ⟨_, #[], 0, Heap.get?_push_size _ rfl, ⟨rfl, rfl, rfl⟩, rfl, fun J he => by simp at he, .nil, List.nodup_nil⟩ .nil rfl rfl
 have R2 : FRel F B loc ((H.aI (hh.objs.size + 1) (C, hh.objs.size)).aD hh.objs.size []) ⟨(hh.push emptyDict).push (instObj C hh.objs.size), g, dr, t, os⟩ :=
  R1.newI (s' := ⟨(hh.push emptyDict).push (instObj C hh.objs.size), g, dr, t, os⟩) (a := hh.objs.size + 1) (Cd' := (C, hh.objs.size)) (by show (hh.push emptyDict).objs.size ≤ _; rw [Heap.size_push]; exact Nat.le_refl _) (fun b o e => Heap.get?_push_of_some _ e) (by
   have := Heap.get?_push_size (hh.push emptyDict) (o := instObj C hh.objs.size) rfl
   rw [Heap.size_push] at this; exact this) rfl rfl
 refine h _ (hh.objs.size + 1) hh.objs.size ok.underC (R.fresh_H (R.fresh (Nat.le_succ _)).1) (R.fresh_H (R.fresh (Nat.le_refl _)).1) (Nat.lt_succ_self _) B _ (.ref (hh.objs.size + 1) :: vs) [] _ R2 (.cons (.ref _) rvs) .nil ?_
 intro v s' p
 obtain ⟨B', b, l', H', le, r, R', rfl, q⟩ := p
 obtain rfl := r.nI
 exact ⟨rfl, B', _, l', H', le, .ref _, R', q⟩
theorem zk1 {A : Around} {E : Value -> Shared -> Prop} {B l H} {s : Shared} {e : Value} {b : Bool} {Q : Bool -> Shared -> Prop} (f : Fly F b B l H (.type "KeyError") e s) (q : Q true s) : wpAny F.M A (excMatches e (.type "KeyError")) Q E s :=
 wpAny_excMatches_type (Fly.typeIs (C := "KeyError") f) (by rw [isSubtype_type]; kernel_rfl) (by kernel_rfl) (by rw [isSubtype_type]; kernel_rfl) q
end
structure Wd (K : Frag) (h : Heap) : Prop where
 k : K.In h
 g : ∃ mg, h.Ns mainGlobals mg
 b : ∃ mb : Str -> Option Value, h.Ns builtinsNs mb ∧ ∀ x : Str, x ≠ "__name__" -> mb x = bootBuiltins x
 nolim : h.NoLimit
noncomputable def kFd (K : Frag) (a : Addr) : Option FuncData := match K.lookup a with
 | some ⟨_, _, .func fd, _⟩ => some fd
 | _ => none
noncomputable def zpf : List Str -> Bool
 | [] => true
 | x :: r => !r.contains x && zpf r
theorem ziu : ∀ {l : List Str}, zpf l = true -> l.Nodup
 | [], _ => .nil
 | x :: r, h => by
  unfold zpf at h
  simp only [Bool.and_eq_true, Bool.not_eq_true'] at h
  refine List.nodup_cons.mpr ⟨fun hm => ?_, ziu h.2⟩
  have := h.1
  rw [List.contains_eq_mem] at this
  simp [hm] at this
noncomputable def okFd (K : Frag) (fd : FuncData) : Bool := codeIn K fd.code fd.qualname && fd.closure.isEmpty && zpf (fd.scope.names.map (·.1)) && fd.globals == mainGlobals && fd.builtins == builtinsNs && fd.scope.kind == .function && !fd.scope.isCoroutine && !fd.scope.isGenerator && (fd.scope.names.lookup ("__debug__" : Str)).isNone
theorem Fn.of {K : Frag} {b : Heap} (W : Wd K b) {a : Addr} {fd : FuncData} {body : List Stmt} (h : kFd K a = some fd) (hb : fd.body = .stmts body) (ho : okFd K fd = true) : Fn b a fd body := by
 unfold okFd at ho
 simp only [Bool.and_eq_true, Bool.not_eq_true', beq_iff_eq, List.isEmpty_iff, Option.isNone_iff_eq_none] at ho
 obtain ⟨⟨⟨⟨⟨⟨⟨⟨h1, h2⟩, h3⟩, h4⟩, h5⟩, h6⟩, h7⟩, h8⟩, h9⟩ := ho
 refine ⟨?_, W.nolim, codeRec_of W.k h1, hb, h2, ziu h3, h4, h5, h6, h7, h8, h9⟩
 unfold kFd at h
 split at h
 ·rename_i ho
  cases h
  exact ⟨_, W.k _ _ ho, rfl⟩
 ·cases h
section
variable {F : Fx} {n : Nat} {loc : Loc} {H : Hp} {K : Frag}
theorem zr5 (ok : Ok F n) (W : Wd K F.c.base) {x : Str} {pos : Pos} {i : Nat} {v : Value} {X : V} {Q : V -> Loc -> Hp -> Prop} (hx : look F.nm x = some (i, .globalImplicit)) (e : nsIn K mainGlobals x = some (some v))
  (r : RelV (fun a => F.c.base.get? a) v X) (q : Q X loc H) : WE F (.Name x pos) loc H Q := by
 obtain ⟨mg, hg⟩ := W.g
 exact zno ok W.k hg hx e r q
theorem zu3 (ok : Ok F n) (W : Wd K F.c.base) {x : Str} {pos : Pos} {i : Nat} {v : Value} {Q : V -> Loc -> Hp -> Prop}
  (hx : look F.nm x = some (i, .globalImplicit)) (e : nsIn K mainGlobals x = some none) (hv : bootBuiltins x = some v) (hn : x ≠ "__name__") (q : Q (.raw v) loc H) : WE F (.Name x pos) loc H Q := by
 obtain ⟨mg, hg⟩ := W.g
 obtain ⟨mb, hb, hbb⟩ := W.b
 exact zms ok W.k hg hb hbb hx e hv hn q
theorem zpz {h : Heap} (W : Wd K h) {a : Addr} {items : Array Value} {n : Nat} {xs : List V} (e : K.lookup a = some (zb2 items n)) (r : zad (fun a => h.get? a) items.toList xs) : RelV (fun a => h.get? a) (.ref a) (.list xs) := .list (W.k _ _ e) r
end
section
variable {F : Fx} {n : Nat} {loc : Loc} {H : Hp} {K : Frag}
noncomputable def zkh (K : Frag) (C : Addr) (name : Str) : Bool := findIn K (.ref C) "__setattr__" == some (some (.builtin "object.__setattr__")) && plainOver K C && takerIn K C name == some none && hasDictIn K C
noncomputable def zll (K : Frag) (C : Addr) (name : Str) : Bool := plainGet K C name && hasDictIn K C && findIn K (.ref C) name == some none
noncomputable def zq0 (K : Frag) (C : Addr) (name : Str) (f : Addr) : Bool := plainGet K C name && findIn K (.ref C) name == some (some (.ref f)) && isFn K (.ref f)
noncomputable def zuy (K : Frag) (C fI : Addr) : Bool := makesIn K C && findIn K (.ref C) "__init__" == some (some (.ref fI)) && typeIn K (.ref fI) == some (.type "function")
theorem ztv (W : Wd K F.c.base) {x C d : Addr} {fs : List (Str × V)} {name : Str} {Z : V} {Q : Loc -> Hp -> Prop} (eI : H.I x = some (C, d)) (eD : H.D d = some fs) (eG : H.G d = none) (hz : fs.length ≤ 900)
  (q : Q loc (H.aD d (dput fs name Z))) (ho : zkh K C name = true := by rfl) (hn : PyData.strOk name = true := by exact zar _) : SetA F name (.ref x) Z loc H Q := by
 unfold zkh at ho
 simp only [Bool.and_eq_true, beq_iff_eq] at ho
 obtain ⟨⟨⟨h1, h2⟩, h3⟩, h4⟩ := ho
 exact zpq W.k eI eD eG h1 h2 h3 h4 hn hz q
theorem ztw (W : Wd K F.c.base) {x C d : Addr} {fs : List (Str × V)} {name : Str} {Y : V} {Q : V -> Loc -> Hp -> Prop} (eI : H.I x = some (C, d)) (eD : H.D d = some fs) (hy : dget fs name = some Y) (hr : zfk Y = true)
  (q : Q Y loc H) (ho : zll K C name = true := by rfl) : GetA F name (.ref x) loc H Q := by
 unfold zll at ho
 simp only [Bool.and_eq_true, beq_iff_eq] at ho
 obtain ⟨⟨h1, h2⟩, h3⟩ := ho
 exact zpo W.k eI eD hy hr h1 h2 h3 q
theorem ztx (W : Wd K F.c.base) {C : Addr} {fs : List (Str × V)} {name : Str} {Y : V} {Q : V -> Loc -> Hp -> Prop} (hy : dget fs name = some Y) (hr : zfk Y = true)
  (q : Q Y loc H) (ho : zll K C name = true := by rfl) : GetA F name (.inst C fs) loc H Q := by
 unfold zll at ho
 simp only [Bool.and_eq_true, beq_iff_eq] at ho
 obtain ⟨⟨h1, h2⟩, h3⟩ := ho
 exact zn8 W.k hy hr h1 h2 h3 q
theorem zty (W : Wd K F.c.base) {x C d f : Addr} {fs : List (Str × V)} {name : Str} {Q : V -> List V -> Loc -> Hp -> Prop} (eI : H.I x = some (C, d)) (eD : H.D d = some fs) (hy : dget fs name = none)
  (q : Q (.ref f) [.ref x] loc H) (ho : zq0 K C name f = true := by rfl) : MGet F name (.ref x) loc H Q := by
 unfold zq0 at ho
 simp only [Bool.and_eq_true, beq_iff_eq] at ho
 obtain ⟨⟨h1, h2⟩, h3⟩ := ho
 exact zpp W.k eI eD hy h1 h2 h3 q
theorem zg7 (ok : Ok F (n + 1)) (W : Wd K F.c.base) {C : Addr} (fI : Addr) {Xs : List V} {Q : V -> Loc -> Hp -> Prop}
  (h : ∀ A' x d, Ok { F with A := A' } n -> H.Fresh x -> H.Fresh d -> d < x -> zco { F with A := A' } fI (.ref x :: Xs) [] [] loc ((H.aI x (C, d)).aD d []) fun X l H' => X = .none ∧ Q (.ref x) l H') (ho : zuy K C fI = true := by rfl) : Call F (.ref C) Xs loc H Q := by
 unfold zuy at ho
 simp only [Bool.and_eq_true, beq_iff_eq] at ho
 obtain ⟨⟨h1, h2⟩, h3⟩ := ho
 exact zpy ok W.k h1 h2 h3 h
theorem ziv {α : Type} : ∀ (pn : List Str) (vs : List α), ((pn.zip vs).map (·.1)).Sublist pn
 | [], vs => by simp
 | p :: r, [] => by simp
 | p :: r, v :: vs => by simpa using ziv r vs
noncomputable def zlm (fd : FuncData) (pn : List Str) : Bool := zpf pn && pn.all fun x => fd.scope.names.lookup x == some .local || fd.scope.names.lookup x == some .cell
theorem zjs {fd : FuncData} {pn : List Str} (h : zlm fd pn = true) (Vs : List V) : ((pn.zip Vs).map (·.1)).Nodup ∧ ∀ x ∈ (pn.zip Vs).map (·.1), fd.scope.names.lookup x = some .local ∨ fd.scope.names.lookup x = some .cell := by
 unfold zlm at h
 simp only [Bool.and_eq_true, List.all_eq_true, Bool.or_eq_true, beq_iff_eq] at h
 exact ⟨(ziv pn Vs).nodup (ziu h.1), fun x hx => h.2 x ((ziv pn Vs).subset hx)⟩
noncomputable def zhk (M : Model) (b : Heap) (fd : FuncData) (kws pn : List Str) (Xs Ws Vs : List V) : Prop :=
 ∀ (vs ws : List Value) (B : Keep), zad B vs Xs -> zad B ws Ws -> Le (fun a => b.get? a) B -> ∃ us, Looks M b (bindArgs fd ⟨vs, kws.zip ws⟩) (pn.zip us) ∧ zad B us Vs
theorem zob (ok : Ok F (n + 1)) (W : Wd K F.c.base) {f : Addr} {fd : FuncData} {body : List Stmt} (pn : List Str) {kws : List Str} {Xs Ws Vs : List V} {Q : V -> Loc -> Hp -> Prop}
  (hfd : kFd K f = some fd) (hb : fd.body = .stmts body) (ho : okFd K fd = true) (hp : zlm fd pn = true) (hbind : zhk F.M F.c.base fd kws pn Xs Ws Vs)
  (h : ∀ sv A L E, Ok ⟨F.c.sv sv, A, callEnvC fd L f, E⟩ n -> Top ⟨F.c.sv sv, A, callEnvC fd L f, E⟩ -> (∀ x c, (x, c) ∈ cellsFrom (L + 1) fd.scope.names [] -> H.Fresh c) →
   WSs ⟨F.c.sv sv, A, callEnvC fd L f, E⟩ body (zbq fd.scope.names (pn.zip Vs)) (za7 H (pn.zip Vs) (cellsFrom (L + 1) fd.scope.names [])) fun fl J H' => Q (retV fl) loc H') : zco F f Xs kws Ws loc H Q :=
 zoa ok (Fn.of W hfd hb ho) (fun vs ws B r1 r2 le => let ⟨us, h1, h2⟩ := hbind vs ws B r1 r2 le; ⟨_, h1, ze7 h2⟩) (zjs hp Vs).1 (zjs hp Vs).2 h
theorem zbv {f : Addr} {Xs : List V} {Q : V -> Loc -> Hp -> Prop} (h : zco F f Xs [] [] loc H Q) : Call F (.ref f) Xs loc H Q := fun B s v vs R rv rvs => by
 obtain rfl := rv.rI
 exact wpAny_call (h B s vs [] (F.plainR (Post F RelV B Q)) R rvs .nil fun v s' p => p)
theorem zp0 (W : Wd K F.c.base) {a : Addr} (e : keepIn K (.ref a) = true) : zc6 F (.ref a) loc H := zkv W.k e
end
section
variable {F : Fx} {n : Nat} {loc : Loc} {H : Hp} {K : Frag}
noncomputable def zpg (fd : FuncData) : Bool := fd.scope.names.all fun p => p.2 != .cell
theorem zck : ∀ (names : List (Str × NameKind)) (k : Nat) (acc : List (Str × Addr)), (names.all fun p => p.2 != .cell) = true -> cellsFrom k names acc = acc
 | [], _, _, _ => rfl
 | (y, kd) :: r, k, acc, h => by
  rw [List.all_cons, Bool.and_eq_true] at h
  unfold cellsFrom
  have : ¬ (kd == NameKind.cell) = true := by simpa [bne] using h.1
  first
   | (rw [if_neg this]; exact zck r k acc h.2)
   | (have h' : kd ≠ NameKind.cell := by simpa using h.1
      rw [if_neg h']; exact zck r k acc h.2)
theorem zr6 (ok : Ok F (n + 1)) (W : Wd K F.c.base) {f : Addr} {fd : FuncData} {body : List Stmt} (pn : List Str) {kws : List Str} {Xs Ws Vs : List V} {l0 : Loc} {Q : V -> Loc -> Hp -> Prop}
  (hfd : kFd K f = some fd) (hb : fd.body = .stmts body) (ho : okFd K fd = true) (hp : zlm fd pn = true) (hc : zpg fd = true) (hbind : zhk F.M F.c.base fd kws pn Xs Ws Vs) (hl : zbq fd.scope.names (pn.zip Vs) = l0)
  (h : ∀ sv A L E, Ok ⟨F.c.sv sv, A, callEnvC fd L f, E⟩ n -> Top ⟨F.c.sv sv, A, callEnvC fd L f, E⟩ -> WSs ⟨F.c.sv sv, A, callEnvC fd L f, E⟩ body l0 H fun fl J H' => Q (retV fl) loc H') : zco F f Xs kws Ws loc H Q :=
 zob ok W pn hfd hb ho hp hbind fun sv A L E ok' tp J => by
  rw [hl, zck _ _ _ hc]
  exact h sv A L E ok' tp
end
noncomputable def zah (F : Fx) (nm : List (Str × NameKind)) (cl : List (Str × Addr)) : Prop := F.env.scope.names = nm ∧ F.env.cells = cl
section
variable {F : Fx} {n : Nat} {loc : Loc} {H : Hp} {K : Frag} {nm : List (Str × NameKind)} {cl : List (Str × Addr)}
theorem gLoc (ok : Ok F n) (hF : zah F nm cl) {x : Str} {pos : Pos} {i : Nat} {X : V} {Q : V -> Loc -> Hp -> Prop} (hx : look nm x = some (i, .local)) (hv : loc[i]? = some (some X)) (q : Q X loc H) : WE F (.Name x pos) loc H Q :=
 zpl ok (by rw [← hF.1] at hx; exact hx) hv q
theorem zk2 (ok : Ok F n) (hF : zah F nm cl) {x : Str} {pos : Pos} {i : Nat} {a : Addr} {X : V} {Q : V -> Loc -> Hp -> Prop} (hx : look nm x = some (i, .cell)) (hc : cl.lookup x = some a) (e : H.C a = some (some X)) (q : Q X loc H) : WE F (.Name x pos) loc H Q :=
 zr0 ok (by rw [← hF.1] at hx; exact hx) (by rw [hF.2]; exact hc) e q
theorem zr7 (ok : Ok F n) (hF : zah F nm cl) {x : Str} {pos : Pos} {i : Nat} {a : Addr} {X : V} {Q : V -> Loc -> Hp -> Prop} (hx : look nm x = some (i, .free)) (hc : cl.lookup x = some a) (e : H.C a = some (some X)) (q : Q X loc H)
  (hn : (x == ("__classdict__" : Str)) = false := by decide) : WE F (.Name x pos) loc H Q :=
 zr1 ok (by rw [← hF.1] at hx; exact hx) (by rw [hF.2]; exact hc) e q hn
theorem zr8 (ok : Ok F n) (W : Wd K F.c.base) (hF : zah F nm cl) {x : Str} {pos : Pos} {i : Nat} {v : Value} {X : V} {Q : V -> Loc -> Hp -> Prop} (hx : look nm x = some (i, .globalImplicit)) (e : nsIn K mainGlobals x = some (some v))
  (r : RelV (fun a => F.c.base.get? a) v X) (q : Q X loc H) : WE F (.Name x pos) loc H Q :=
 zr5 ok W (by rw [← hF.1] at hx; exact hx) e r q
theorem gBi (ok : Ok F n) (W : Wd K F.c.base) (hF : zah F nm cl) {x : Str} {pos : Pos} {i : Nat} {v : Value} {Q : V -> Loc -> Hp -> Prop}
  (hx : look nm x = some (i, .globalImplicit)) (e : nsIn K mainGlobals x = some none) (hv : bootBuiltins x = some v) (hn : x ≠ "__name__") (q : Q (.raw v) loc H) : WE F (.Name x pos) loc H Q :=
 zu3 ok W (by rw [← hF.1] at hx; exact hx) e hv hn q
theorem tLoc (ok : Ok F n) (hF : zah F nm cl) {x : Str} {p : Pos} {i : Nat} {X : V} {Q : Loc -> Hp -> Prop} (hx : look nm x = some (i, .local)) (q : Q (loc.set i (some X)) H) : WA F (.Name x p) X loc H Q :=
 zlw ok (by rw [← hF.1] at hx; exact hx) q
theorem zfv (ok : Ok F n) (hF : zah F nm cl) {x : Str} {p : Pos} {i : Nat} {a : Addr} {X : V} {ov : Option V} {Q : Loc -> Hp -> Prop} (hx : look nm x = some (i, .cell)) (hc : cl.lookup x = some a) (e : H.C a = some ov) (q : Q loc (H.aC a (some X))) : WA F (.Name x p) X loc H Q :=
 zr2 ok (by rw [← hF.1] at hx; exact hx) (by rw [hF.2]; exact hc) e q
theorem sAsg (ok : Ok F n) (hF : zah F nm cl) {x : Str} {i : Nat} {e : Expr} {p pos : Pos} {Q : Fl -> Loc -> Hp -> Prop} (hx : look nm x = some (i, .local)) (h : WE F e loc H fun X l1 H1 => Q .next (l1.set i (some X)) H1)
  (hs : swapsWith e (some (.Name x p)) pos.line F.env = pure false := by rfl) : WS F (.Assign [.Name x p] e pos) loc H Q :=
 znq ok (by rw [← hF.1] at hx; exact hx) h hs
theorem zho (ok : Ok F n) (hF : zah F nm cl) {x : Str} {i : Nat} {a : Addr} {e : Expr} {p pos : Pos} {Q : Fl -> Loc -> Hp -> Prop} (hx : look nm x = some (i, .cell)) (hc : cl.lookup x = some a) (h : WE F e loc H fun X l1 H1 => (∃ ov, H1.C a = some ov) ∧ Q .next l1 (H1.aC a (some X)))
  (hs : swapsWith e (some (.Name x p)) pos.line F.env = pure false := by rfl) : WS F (.Assign [.Name x p] e pos) loc H Q :=
 zmz ok (by rw [← hF.1] at hx; exact hx) (by rw [hF.2]; exact hc) h hs
theorem sAug (ok : Ok F n) (hF : zah F nm cl) {x : Str} {p pos : Pos} {i : Nat} {op : Operator} {e : Expr} {X : V} {Q : Fl -> Loc -> Hp -> Prop} (hx : look nm x = some (i, .local)) (hv : loc[i]? = some (some X))
  (h : WE F e loc H fun Y l1 H1 => Op2 F (inplaceOp op) X Y l1 H1 fun Z l2 H2 => Q .next (l2.set i (some Z)) H2) : WS F (.AugAssign (.Name x p) op e pos) loc H Q :=
 ztt ok (by rw [← hF.1] at hx; exact hx) hv h
theorem zm4 (ok : Ok F n) {e : Expr} {pos : Pos} {Q : Fl -> Loc -> Hp -> Prop} (h : WE F e loc H fun X l1 H1 => Q .next l1 H1) (hs : swapsWith e none pos.line F.env = pure false := by rfl) : WS F (.Expr e pos) loc H Q :=
 zrv h (by unfold interactive; rw [ok.fn]; rfl) hs
theorem setA (ok : Ok F n) (W : Wd K F.c.base) {x C d : Addr} {fs : List (Str × V)} {name : Str} {Z : V} {Q : Loc -> Hp -> Prop} (eI : H.I x = some (C, d)) (eD : H.D d = some fs) (eG : H.G d = none) (hz : fs.length ≤ 900)
  (q : Q loc (H.aD d (dput fs name Z))) (ho : zkh K C name = true := by rfl) (hn : PyData.strOk name = true := by exact zar _) : SetA F name (.ref x) Z loc H Q := ztv W eI eD eG hz q ho hn
theorem getA (ok : Ok F n) (W : Wd K F.c.base) {x C d : Addr} {fs : List (Str × V)} {name : Str} {Y : V} {Q : V -> Loc -> Hp -> Prop} (eI : H.I x = some (C, d)) (eD : H.D d = some fs) (hy : dget fs name = some Y) (hr : zfk Y = true)
  (q : Q Y loc H) (ho : zll K C name = true := by rfl) : GetA F name (.ref x) loc H Q := ztw W eI eD hy hr q ho
theorem getI (ok : Ok F n) (W : Wd K F.c.base) {C : Addr} {fs : List (Str × V)} {name : Str} {Y : V} {Q : V -> Loc -> Hp -> Prop} (hy : dget fs name = some Y) (hr : zfk Y = true)
  (q : Q Y loc H) (ho : zll K C name = true := by rfl) : GetA F name (.inst C fs) loc H Q := ztx W hy hr q ho
theorem getM (ok : Ok F n) (W : Wd K F.c.base) {x C d f : Addr} {fs : List (Str × V)} {name : Str} {Q : V -> List V -> Loc -> Hp -> Prop} (eI : H.I x = some (C, d)) (eD : H.D d = some fs) (hy : dget fs name = none)
  (q : Q (.ref f) [.ref x] loc H) (ho : zq0 K C name f = true := by rfl) : MGet F name (.ref x) loc H Q := zty W eI eD hy q ho
theorem zc9 (ok : Ok F n) (W : Wd K F.c.base) {a : Addr} (e : keepIn K (.ref a) = true := by rfl) : zc6 F (.ref a) loc H := zp0 W e
theorem zcq (ok : Ok F n) {v : Value} (h : ∀ a, v ≠ .ref a := by intro a h; cases h) : zc6 F (.raw v) loc H := zdc h
noncomputable def RetQ (Q : V -> Loc -> Hp -> Prop) (loc : Loc) : Fl -> Loc -> Hp -> Prop := fun fl J H' => Q (retV fl) loc H'
theorem defP (ok : Ok F (n + 1)) (W : Wd K F.c.base) {f : Addr} {fd : FuncData} {body : List Stmt} (pn : List Str) {kws : List Str} {Xs Ws Vs : List V} {l0 : Loc} {nm : List (Str × NameKind)} {Q : V -> Loc -> Hp -> Prop}
  (hfd : kFd K f = some fd) (hb : fd.body = .stmts body) (hnm : fd.scope.names = nm) (ho : okFd K fd = true) (hp : zlm fd pn = true) (hc : zpg fd = true) (hbind : zhk F.M F.c.base fd kws pn Xs Ws Vs) (hl : zbq nm (pn.zip Vs) = l0)
  (h : ∀ F' : Fx, Ok F' n -> Top F' -> Wd K F'.c.base -> zah F' nm [] -> WSs F' body l0 H (RetQ Q loc)) : zco F f Xs kws Ws loc H Q :=
 zr6 ok W pn hfd hb ho hp hc hbind (by rw [hnm]; exact hl) fun sv A L E ok' tp => h _ ok' tp W ⟨hnm, zck _ _ _ hc⟩
theorem defC (ok : Ok F (n + 1)) (W : Wd K F.c.base) {f : Addr} {fd : FuncData} {body : List Stmt} (pn : List Str) {kws : List Str} {Xs Ws Vs : List V} {l0 : Loc} {nm : List (Str × NameKind)} {Q : V -> Loc -> Hp -> Prop}
  (hfd : kFd K f = some fd) (hb : fd.body = .stmts body) (hnm : fd.scope.names = nm) (ho : okFd K fd = true) (hp : zlm fd pn = true) (hbind : zhk F.M F.c.base fd kws pn Xs Ws Vs) (hl : zbq nm (pn.zip Vs) = l0)
  (h : ∀ (F' : Fx) (L : Addr), Ok F' n -> Top F' -> Wd K F'.c.base -> zah F' nm (cellsFrom (L + 1) nm []) -> (∀ x c, (x, c) ∈ cellsFrom (L + 1) nm [] -> H.Fresh c) →
   WSs F' body l0 (za7 H (pn.zip Vs) (cellsFrom (L + 1) nm [])) (RetQ Q loc)) : zco F f Xs kws Ws loc H Q := by
 subst hnm
 subst hl
 exact zob ok W pn hfd hb ho hp hbind fun sv A L E ok' tp hf => h _ L ok' tp W ⟨rfl, rfl⟩ hf
theorem zai (ok : Ok F n) (hF : zah F nm cl) {scope : Scope} {cl' : List (Str × Addr)} {C : Addr} {sv : List (Addr × Obj)} {E : Value -> Shared -> Prop} :
  zah (CFx F scope cl' C sv E) (scope.names.map fun p => if (p.2 == .free && nm.lookup p.1 == some .cell) then (p.1, .cell) else p) cl' := by
 refine ⟨?_, rfl⟩
 show (relabel scope F.env).names = _
 unfold relabel
 refine List.map_congr_left fun p J => ?_
 obtain ⟨x, k⟩ := p
 have h1 : F.env.kindOf x = nm.lookup x := by unfold Env.kindOf; rw [hF.1]
 have h2 : (F.env.scope.kind == ScopeKind.function) = true := by rw [ok.fn]; rfl
 simp only [h1, h2, Bool.and_true]
theorem zcf (ok : Ok F n) {scope : Scope} (h : scope.names.lookup ("__debug__" : Str) = none) : (relabel scope F.env).names.lookup ("__debug__" : Str) = none := by
 unfold relabel
 have : ∀ names : List (Str × NameKind), names.lookup ("__debug__" : Str) = none -> (names.map fun (n, k) => if (k == NameKind.free && F.env.scope.kind == .function && F.env.kindOf n == some .cell) then (n, NameKind.cell) else (n, k)).lookup ("__debug__" : Str) = none := by
  intro names
  induction names with
  | nil => intro _; rfl
  | cons p r ih =>
   obtain ⟨x, k⟩ := p
   intro h
   rw [List.lookup_cons] at h
   rw [List.map_cons]
   have e : ∀ k', List.lookup ("__debug__" : Str) ((x, k') :: (r.map fun (n, k) => if (k == NameKind.free && F.env.scope.kind == .function && F.env.kindOf n == some .cell) then (n, NameKind.cell) else (n, k))) = none := by
    intro k'
    rw [List.lookup_cons]
    cases z : (("__debug__" : Str) == x) with
    | true => rw [z] at h; cases h
    | false => rw [z] at h; exact ih h
   dsimp only
   split
   ·exact e _
   ·exact e _
 exact this scope.names h
end
section
variable {a b : Addr} {H H' : Hp}
theorem zp1 (h : H'.Fresh a) (ho : H'.Own b) (hs : a ≠ b -> H'.SameAt H a) : a ≠ b ∧ H.Fresh a :=
 have e : a ≠ b := fun e => h (e ▸ ho)
 ⟨e, fun o => h ((hs e).own o)⟩
theorem ownL {x} : (H.aL b x).Own b := .inl (by simp)
theorem ownD {x} : (H.aD b x).Own b := .inr (.inl (by simp))
theorem ownP {x} : (H.aP b x).Own b := .inr (.inr (.inl (by simp)))
theorem ownS {x} : (H.aS b x).Own b := .inr (.inr (.inr (.inl (by simp))))
theorem ownI {x} : (H.aI b x).Own b := .inr (.inr (.inr (.inr (.inl (by simp)))))
theorem ownC {x} : (H.aC b x).Own b := .inr (.inr (.inr (.inr (.inr (by simp)))))
theorem frL {x} (h : (H.aL b x).Fresh a) : a ≠ b ∧ H.Fresh a := zp1 h ownL fun e => ⟨zak e, rfl, rfl, rfl, rfl, rfl, rfl⟩
theorem frD {x} (h : (H.aD b x).Fresh a) : a ≠ b ∧ H.Fresh a := zp1 h ownD fun e => ⟨rfl, zak e, rfl, rfl, rfl, rfl, rfl⟩
theorem frI {x} (h : (H.aI b x).Fresh a) : a ≠ b ∧ H.Fresh a := zp1 h ownI fun e => ⟨rfl, rfl, rfl, rfl, zak e, rfl, rfl⟩
theorem frC {x} (h : (H.aC b x).Fresh a) : a ≠ b ∧ H.Fresh a := zp1 h ownC fun e => ⟨rfl, rfl, rfl, rfl, rfl, zak e, rfl⟩
end
section
variable {H : Hp} {a b : Addr}
theorem Hp.Fresh.l (h : H.Fresh a) : H.L a = none := (zbj h).1
theorem Hp.Fresh.d (h : H.Fresh a) : H.D a = none := (zbj h).2.1
theorem Hp.Fresh.p (h : H.Fresh a) : H.P a = none := (zbj h).2.2.1
theorem Hp.Fresh.s (h : H.Fresh a) : H.S a = none := (zbj h).2.2.2.1
theorem Hp.Fresh.i (h : H.Fresh a) : H.I a = none := (zbj h).2.2.2.2.1
theorem Hp.Fresh.c (h : H.Fresh a) : H.C a = none := (zbj h).2.2.2.2.2
theorem Hp.Fresh.neL (h : H.Fresh a) {x} (e : H.L b = some x) : b ≠ a := by rintro rfl; rw [h.l] at e; cases e
theorem Hp.Fresh.neD (h : H.Fresh a) {x} (e : H.D b = some x) : b ≠ a := by rintro rfl; rw [h.d] at e; cases e
theorem Hp.Fresh.neP (h : H.Fresh a) {x} (e : H.P b = some x) : b ≠ a := by rintro rfl; rw [h.p] at e; cases e
theorem Hp.Fresh.neS (h : H.Fresh a) {x} (e : H.S b = some x) : b ≠ a := by rintro rfl; rw [h.s] at e; cases e
theorem Hp.Fresh.neI (h : H.Fresh a) {x} (e : H.I b = some x) : b ≠ a := by rintro rfl; rw [h.i] at e; cases e
theorem Hp.Fresh.neC (h : H.Fresh a) {x} (e : H.C b = some x) : b ≠ a := by rintro rfl; rw [h.c] at e; cases e
end
theorem upe {α : Type} {f : Addr -> Option α} {a b : Addr} {x : α} {y : Option α} (h : b ≠ a) (e : f b = y) : up f a x b = y := by rw [zak h]; exact e
theorem zd3 {α : Type} {f : Addr -> Option α} {a : Addr} {x y : α} : up (up f a x) a y = up f a y := funext fun b => by
 by_cases e : b = a <;> simp [up, e]
theorem zr9 {α : Type} {f : Addr -> Option α} {a b : Addr} {x y : α} (h : a ≠ b) : up (up f a x) b y = up (up f b y) a x := funext fun c => by
 by_cases e : c = a
 ·subst e; simp [up, h]
 ·by_cases e' : c = b
  ·subst e'; simp [up, e]
  ·simp [up, e, e']
theorem zsa {α : Type} {f : Addr -> Option α} {a : Addr} {x : α} (h : f a = some x) : up f a x = f := funext fun c => by
 by_cases e : c = a
 ·subst e; simp [h]
 ·simp [up, e]
theorem aaL {H : Hp} {a : Addr} {x y} : (H.aL a x).aL a y = H.aL a y := by show Hp.mk (up (up _ _ _) _ _) _ _ _ _ _ _ = _; rw [zd3]
theorem aaD {H : Hp} {a : Addr} {x y} : (H.aD a x).aD a y = H.aD a y := by show Hp.mk _ (up (up _ _ _) _ _) _ _ _ _ _ = _; rw [zd3]
theorem aaS {H : Hp} {a : Addr} {x y} : (H.aS a x).aS a y = H.aS a y := by show Hp.mk _ _ _ (up (up _ _ _) _ _) _ _ _ = _; rw [zd3]
theorem aaC {H : Hp} {a : Addr} {x y} : (H.aC a x).aC a y = H.aC a y := by show Hp.mk _ _ _ _ _ (up (up _ _ _) _ _) _ = _; rw [zd3]
theorem aaG {H : Hp} {a : Addr} {x y} : (H.aG a x).aG a y = H.aG a y := by show Hp.mk _ _ _ _ _ _ (up (up _ _ _) _ _) = _; rw [zd3]
theorem uaL {H : Hp} {a : Addr} {x} (h : H.L a = none) : (H.aL a x).uL a = H := by show Hp.mk (un (up _ _ _) _) _ _ _ _ _ _ = _; rw [zjk h]
theorem zvr {H : Hp} {a : Addr} {x} (e : H.L a = some x) : H.aL a x = H := by show Hp.mk (up _ _ _) _ _ _ _ _ _ = _; rw [zsa e]
theorem ztz {H : Hp} {a : Addr} {x} (e : H.D a = some x) : H.aD a x = H := by show Hp.mk _ (up _ _ _) _ _ _ _ _ = _; rw [zsa e]
theorem zvs {H : Hp} {a : Addr} {x} (e : H.C a = some x) : H.aC a x = H := by show Hp.mk _ _ _ _ _ (up _ _ _) _ = _; rw [zsa e]
noncomputable def Ext (ft : Addr -> Prop) (H H' : Hp) : Prop := ∀ a, H.Own a -> H'.Own a ∧ (¬ ft a -> H'.SameAt H a)
theorem Ext.refl {ft : Addr -> Prop} (H : Hp) : Ext ft H H := fun a o => ⟨o, fun J => ⟨rfl, rfl, rfl, rfl, rfl, rfl, rfl⟩⟩
theorem Hp.SameAt.trans {H1 H2 H3 : Hp} {a : Addr} (h : H1.SameAt H2 a) (k : H2.SameAt H3 a) : H1.SameAt H3 a :=
 ⟨h.1.trans k.1, h.2.1.trans k.2.1, h.2.2.1.trans k.2.2.1, h.2.2.2.1.trans k.2.2.2.1, h.2.2.2.2.1.trans k.2.2.2.2.1, h.2.2.2.2.2.1.trans k.2.2.2.2.2.1, h.2.2.2.2.2.2.trans k.2.2.2.2.2.2⟩
theorem Ext.trans {ft : Addr -> Prop} {H1 H2 H3 : Hp} (h : Ext ft H1 H2) (k : Ext ft H2 H3) : Ext ft H1 H3 := fun a o => by
 obtain ⟨o2, s2⟩ := h a o
 obtain ⟨o3, s3⟩ := k a o2
 exact ⟨o3, fun hf => (s3 hf).trans (s2 hf)⟩
theorem Ext.fresh {ft : Addr -> Prop} {H H' : Hp} (h : Ext ft H H') {a : Addr} (hf : H'.Fresh a) : H.Fresh a := fun o => hf (h a o).1
section
variable {a b : Addr} {H H' : Hp} {ft : Addr -> Prop}
theorem zjt (h : ft b ∨ H.Fresh b) (ho : H'.Own b) (hs : ∀ a, a ≠ b -> H'.SameAt H a) : Ext ft H H' := fun a o => by
 by_cases e : a = b
 ·subst e; exact ⟨ho, fun hf => h.elim (fun h => absurd h hf) (fun h => absurd o h)⟩
 ·exact ⟨(hs a e).own o, fun J => hs a e⟩
theorem extL {x} (h : ft b ∨ H.Fresh b) : Ext ft H (H.aL b x) := zjt h ownL fun J e => ⟨zak e, rfl, rfl, rfl, rfl, rfl, rfl⟩
theorem extD {x} (h : ft b ∨ H.Fresh b) : Ext ft H (H.aD b x) := zjt h ownD fun J e => ⟨rfl, zak e, rfl, rfl, rfl, rfl, rfl⟩
theorem extP {x} (h : ft b ∨ H.Fresh b) : Ext ft H (H.aP b x) := zjt h ownP fun J e => ⟨rfl, rfl, zak e, rfl, rfl, rfl, rfl⟩
theorem extS {x} (h : ft b ∨ H.Fresh b) : Ext ft H (H.aS b x) := zjt h ownS fun J e => ⟨rfl, rfl, rfl, zak e, rfl, rfl, rfl⟩
theorem extI {x} (h : ft b ∨ H.Fresh b) : Ext ft H (H.aI b x) := zjt h ownI fun J e => ⟨rfl, rfl, rfl, rfl, zak e, rfl, rfl⟩
end
structure Put (fs : List (Str × V)) (name : Str) (Z : V) (fs' : List (Str × V)) : Prop where
 len : fs'.length ≤ fs.length + 1
 here : dget fs' name = some Z
 there : ∀ k, k ≠ name -> dget fs' k = dget fs k
theorem Put.of (fs : List (Str × V)) (name : Str) (Z : V) : Put fs name Z (dput fs name Z) := ⟨zcx _ _ _, by rw [zdb, if_pos rfl], fun k h => by rw [zdb, if_neg h]⟩
theorem Put.old {fs fs' : List (Str × V)} {name : Str} {Z : V} (h : Put fs name Z fs') {k : Str} {Y : Option V} (e : dget fs k = Y) (hk : k ≠ name := by decide) : dget fs' k = Y := (h.there k hk).trans e
section
variable {F : Fx} {n : Nat} {loc : Loc} {H : Hp} {K : Frag}
theorem setF (ok : Ok F n) (W : Wd K F.c.base) {x C d : Addr} {fs : List (Str × V)} {name : Str} {Z : V} {Q : Loc -> Hp -> Prop} (eI : H.I x = some (C, d)) (eD : H.D d = some fs) (eG : H.G d = none) (hz : fs.length ≤ 900)
  (q : ∀ fs', Put fs name Z fs' -> Q loc (H.aD d fs')) (ho : zkh K C name = true := by rfl) (hn : PyData.strOk name = true := by exact zar _) : SetA F name (.ref x) Z loc H Q :=
 setA ok W eI eD eG hz (q _ (Put.of _ _ _)) ho hn
theorem zu4 (ok : Ok F n) (W : Wd K F.c.base) {x C d : Addr} {fs : List (Str × V)} {name : Str} {Z : V} {Q : Loc -> Hp -> Prop} (eI : H.I x = some (C, d)) (eG : H.G d = none) (hz : fs.length ≤ 900)
  (q : ∀ fs', Put fs name Z fs' -> Q loc (H.aD d fs')) (ho : zkh K C name = true := by rfl) (hn : PyData.strOk name = true := by exact zar _) : SetA F name (.ref x) Z loc (H.aD d fs) Q :=
 setF ok W eI (zac _ _ _) eG hz (fun fs' h => aaD.symm ▸ q fs' h) ho hn
theorem zq9 (ok : Ok F n) (W : Wd K F.c.base) {x C d u : Addr} {us : List V} {fs : List (Str × V)} {name : Str} {Z : V} {Q : Loc -> Hp -> Prop} (eI : H.I x = some (C, d)) (eG : H.G d = none) (hz : fs.length ≤ 900)
  (q : ∀ fs', Put fs name Z fs' -> Q loc ((H.aD d fs').aL u us)) (ho : zkh K C name = true := by rfl) (hn : PyData.strOk name = true := by exact zar _) : SetA F name (.ref x) Z loc ((H.aD d fs).aL u us) Q :=
 setF ok W eI (zac _ _ _) eG hz (fun fs' h => by rw [show ((H.aD d fs).aL u us).aD d fs' = ((H.aD d fs).aD d fs').aL u us from rfl, aaD]; exact q fs' h) ho hn
end
section
theorem sbT {α : Type} {x y z : Option α} (h : x = none ∨ x = y) (k : y = none ∨ y = z) : x = none ∨ x = z := h.elim .inl fun h => h ▸ k
theorem sbG {α β : Type} {x y z : Option α} {p q r : Option β} (h : x = none ∨ (x = y ∧ p = q)) (k : y = none ∨ (y = z ∧ q = r)) : x = none ∨ (x = z ∧ p = r) := h.elim .inl fun h => k.imp (fun k => h.1.trans k) fun k => ⟨h.1.trans k.1, h.2.trans k.2⟩
theorem Hp.Sub.trans {H1 H2 H3 : Hp} (h : H1.Sub H2) (k : H2.Sub H3) : H1.Sub H3 := fun a =>
 have h := h a
 have k := k a
 ⟨sbT h.1 k.1, sbT h.2.1 k.2.1, sbT h.2.2.1 k.2.2.1, sbT h.2.2.2.1 k.2.2.2.1, sbT h.2.2.2.2.1 k.2.2.2.2.1, sbT h.2.2.2.2.2.1 k.2.2.2.2.2.1, sbG h.2.2.2.2.2.2 k.2.2.2.2.2.2⟩
variable {H : Hp} {u : Addr}
theorem subL {x} (h : H.L u = none) : H.Sub (H.aL u x) := fun a => by
 refine ⟨?_, .inr rfl, .inr rfl, .inr rfl, .inr rfl, .inr rfl, .inr ⟨rfl, rfl⟩⟩
 by_cases e : a = u
 ·subst e; exact .inl h
 ·exact .inr (zak e).symm
theorem subD {x} (h : H.D u = none) (hg : H.G u = none) : H.Sub (H.aD u x) := fun a => by
 refine ⟨.inr rfl, ?_, .inr rfl, .inr rfl, .inr rfl, .inr rfl, ?_⟩
 ·by_cases e : a = u
  ·subst e; exact .inl h
  ·exact .inr (zak e).symm
 ·by_cases e : a = u
  ·subst e; exact .inl hg
  ·exact .inr ⟨rfl, (zak e).symm⟩
theorem subG {x} (h : H.G u = none) : H.Sub (H.aG u x) := fun a => by
 refine ⟨.inr rfl, .inr rfl, .inr rfl, .inr rfl, .inr rfl, .inr rfl, ?_⟩
 by_cases e : a = u
 ·subst e; exact .inl h
 ·exact .inr ⟨(zak e).symm, rfl⟩
theorem subC {x} (h : H.C u = none) : H.Sub (H.aC u x) := fun a => by
 refine ⟨.inr rfl, .inr rfl, .inr rfl, .inr rfl, .inr rfl, ?_, .inr ⟨rfl, rfl⟩⟩
 by_cases e : a = u
 ·subst e; exact .inl h
 ·exact .inr (zak e).symm
end
theorem zap.same {a : Option V} {r r' : Loc} (h : zap r' r) : zap (a :: r') (a :: r) := fun i X e => by
 cases i with
 | zero => exact e
 | succ i => simp only [List.getElem?_cons_succ] at e ⊢; exact h i X e
theorem zap.drop {a : Option V} {r r' : Loc} (h : zap r' r) : zap (Option.none :: r') (a :: r) := fun i X e => by
 cases i with
 | zero => simp at e
 | succ i => simp only [List.getElem?_cons_succ] at e ⊢; exact h i X e
theorem zoc {α : Type} {f : Addr -> Option α} {d a : Addr} {x y z : α} : up (up (up f d x) a y) d z = up (up f a y) d z := funext fun c => by
 by_cases e : c = d
 ·subst e; simp
 ·by_cases e' : c = a
  ·subst e'; simp [up, e]
  ·simp [up, e, e']
section
variable {F : Fx} {n : Nat} {loc : Loc} {H : Hp} {K : Frag}
theorem zu5 (ok : Ok F n) (W : Wd K F.c.base) {x C d a : Addr} {fs y : List (Str × V)} {name : Str} {Z : V} {Q : Loc -> Hp -> Prop} (eI : H.I x = some (C, d)) (eG : H.G d = none) (hz : fs.length ≤ 900) (hne : d ≠ a)
  (q : ∀ fs', Put fs name Z fs' -> Q loc ((H.aD a y).aD d fs')) (ho : zkh K C name = true := by rfl) (hn : PyData.strOk name = true := by exact zar _) : SetA F name (.ref x) Z loc ((H.aD d fs).aD a y) Q :=
 setF ok W eI (upe hne (zac _ _ _)) eG hz (fun fs' h => by
  show Q loc (Hp.mk _ (up (up (up H.D d fs) a y) d fs') _ _ _ _ _)
  rw [zoc]; exact q fs' h) ho hn
end
noncomputable abbrev Tab := List (Str × Addr × List V)
noncomputable def adr (t : Tab) : List Addr := t.map (·.2.1)
noncomputable def kys (t : Tab) : List Str := t.map (·.1)
noncomputable def tof (t : Tab) : List (Str × V) := t.map fun e => (e.1, .ref e.2.1)
noncomputable def tcon (t : Tab) : List (Str × List V) := t.map fun e => (e.1, e.2.2)
noncomputable def tget (t : Tab) (k : Str) : Option (Addr × List V) := (t.find? fun e => e.1 = k).map (·.2)
noncomputable def tset (t : Tab) (a : Addr) (ys : List V) : Tab := t.map fun e => if e.2.1 = a then (e.1, a, ys) else e
structure Tb (H : Hp) (d : Addr) (t : Tab) : Prop where
 dict : H.D d = some (tof t)
 lst : ∀ e ∈ t, H.L e.2.1 = some e.2.2
theorem zbk {t : Tab} {k : Str} {a : Addr} {xs : List V} (h : tget t k = some (a, xs)) : (k, a, xs) ∈ t := by
 unfold tget at h
 cases e : t.find? fun e => decide (e.1 = k) with
 | none => rw [e] at h; cases h
 | some p =>
  rw [e] at h
  have hm := List.mem_of_find?_eq_some e
  have hp := List.find?_some e
  simp at hp h
  obtain ⟨x, y, z⟩ := p
  simp at hp h
  obtain ⟨rfl, rfl⟩ := h
  subst hp; exact hm
theorem zby (t : Tab) (k : Str) : dget (tof t) k = (tget t k).map fun p => V.ref p.1 := by
 unfold dget tof tget
 rw [List.find?_map]
 cases e : t.find? ((fun kv : Str × V => decide (kv.1 = k)) ∘ fun e => (e.1, V.ref e.2.1)) with
 | none =>
  have : t.find? (fun e => decide (e.1 = k)) = none := e
  rw [this]; rfl
 | some p =>
  have : t.find? (fun e => decide (e.1 = k)) = some p := e
  rw [this]; rfl
theorem zb9 {t : Tab} {k : Str} : tget t k = none ↔ k ∉ kys t := by
 unfold tget kys
 simp only [Option.map_eq_none_iff, List.find?_eq_none, decide_eq_true_eq, List.mem_map, not_exists, not_and]
theorem zd4 {t : Tab} {k : Str} (h : k ∈ kys t) : ∃ a xs, tget t k = some (a, xs) := by
 cases e : tget t k with
 | none => exact absurd h (zb9.mp e)
 | some p => exact ⟨p.1, p.2, rfl⟩
theorem Tb.at_ {H : Hp} {d : Addr} {t : Tab} (h : Tb H d t) {k : Str} {a : Addr} {xs : List V} (e : tget t k = some (a, xs)) : dget (tof t) k = some (.ref a) ∧ H.L a = some xs :=
 ⟨by rw [zby, e]; rfl, h.lst _ (zbk e)⟩
theorem Tb.keep {H H' : Hp} {d : Addr} {t : Tab} (h : Tb H d t) (hd : H'.D d = H.D d) (hl : ∀ a ∈ adr t, H'.L a = H.L a) : Tb H' d t :=
 ⟨hd.trans h.dict, fun e he => (hl _ (List.mem_map.mpr ⟨e, he, rfl⟩)).trans (h.lst e he)⟩
theorem zl4 (t : Tab) (a : Addr) (ys : List V) : adr (tset t a ys) = adr t := by
 unfold adr tset
 rw [List.map_map]
 refine List.map_congr_left fun e J => ?_
 simp only [Function.comp]
 split
 ·rename_i h; exact h.symm
 ·rfl
theorem zdn (t : Tab) (a : Addr) (ys : List V) : kys (tset t a ys) = kys t := by
 unfold kys tset
 rw [List.map_map]
 refine List.map_congr_left fun e J => ?_
 simp only [Function.comp]
 split <;> rfl
theorem zp2 (t : Tab) (a : Addr) (ys : List V) : tof (tset t a ys) = tof t := by
 unfold tof tset
 rw [List.map_map]
 refine List.map_congr_left fun e J => ?_
 simp only [Function.comp]
 split
 ·rename_i h; rw [h]
 ·rfl
theorem zbs {t : Tab} {a : Addr} {ys : List V} (h : a ∉ adr t) : tset t a ys = t := by
 unfold tset
 conv => rhs; rw [← List.map_id t]
 refine List.map_congr_left fun e he => ?_
 rw [if_neg (fun z => h (List.mem_map.mpr ⟨e, he, z⟩))]; rfl
theorem Tb.set {H H' : Hp} {d : Addr} {t : Tab} {a : Addr} {ys : List V} (h : Tb H d t) (hd : H'.D d = H.D d) (ha : H'.L a = some ys) (hl : ∀ b, b ≠ a -> H'.L b = H.L b) : Tb H' d (tset t a ys) := by
 refine ⟨by rw [hd, zp2]; exact h.dict, fun e he => ?_⟩
 obtain ⟨e', he', rfl⟩ := List.mem_map.mp he
 split
 ·exact ha
 ·rename_i hn
  rw [hl _ hn]; exact h.lst e' he'
theorem Tb.new {H H' : Hp} {d : Addr} {t : Tab} {k : Str} {a : Addr} {xs : List V} (h : Tb H d t) (hk : k ∉ kys t) (hd : H'.D d = some (dput (tof t) k (.ref a))) (ha : H'.L a = some xs) (hl : ∀ b ∈ adr t, H'.L b = H.L b) : Tb H' d (t ++ [(k, a, xs)]) := by
 have hn : dget (tof t) k = none := by rw [zby, zb9.mpr hk]; rfl
 refine ⟨by rw [hd, zik hn]; simp [tof], fun e he => ?_⟩
 rcases List.mem_append.mp he with he | he
 ·rw [hl _ (List.mem_map.mpr ⟨e, he, rfl⟩)]; exact h.lst e he
 ·simp at he; subst he; exact ha
theorem ze9 {α β : Type} {f : α -> β} : ∀ {l : List α}, (l.map f).Nodup -> ∀ {a b : α}, a ∈ l -> b ∈ l -> f a = f b -> a = b
 | x :: l, h, a, b, ha, hb, e => by
  rw [List.map_cons, List.nodup_cons] at h
  cases ha with
  | head _ =>
   cases hb with
   | head _ => rfl
   | tail _ hb => exact absurd (List.mem_map.mpr ⟨b, hb, e.symm⟩) h.1
  | tail _ ha =>
   cases hb with
   | head _ => exact absurd (List.mem_map.mpr ⟨a, ha, e⟩) h.1
   | tail _ hb => exact ze9 h.2 ha hb e
theorem zju {t : Tab} {k : Str} {a : Addr} {xs ys : List V} (hk : (kys t).Nodup) (ha : (adr t).Nodup) (e : tget t k = some (a, xs)) : tcon (tset t a ys) = (tcon t).map fun p => if p.1 = k then (p.1, ys) else p := by
 have hm := zbk e
 unfold tcon tset
 rw [List.map_map, List.map_map]
 refine List.map_congr_left fun p hp => ?_
 simp only [Function.comp]
 have key : p.2.1 = a ↔ p.1 = k := by
  constructor
  ·intro h
   have := ze9 ha hp hm h
   rw [this]
  ·intro h
   have := ze9 hk hp hm h
   rw [this]
 by_cases h : p.2.1 = a
 ·rw [if_pos h, if_pos (key.mp h)]
 ·rw [if_neg h, if_neg (fun z => h (key.mpr z))]
theorem zra {α : Type} {f : Addr -> Option α} {d a : Addr} {x y z : α} (h : a ≠ d) : up (up (up f a x) d y) a z = up (up f a z) d y := by rw [zoc, zr9 h.symm]
theorem zeg {H H' : Hp} {X : V} {xs : List V} (h : asL H X = some xs) (k : ∀ a xs, H.L a = some xs -> H'.L a = some xs) : asL H' X = some xs := by
 cases X <;> first | exact h | exact k _ _ h
section
variable {F : Fx} {n : Nat} {loc : Loc} {H : Hp} {K : Frag}
variable {L : Addr -> Option (List V)} {D : Addr -> Option (List (Str × V))} {P : Addr -> Option (List (Str × List Str))} {S : Addr -> Option ((Str -> Bool) × Nat)} {I : Addr -> Option (Addr × Addr)} {Cc : Addr -> Option (Option V)} {G : Addr -> Option Nat}
end
set_option genInjectivity false in
structure GA where
 (g d nm nd al prods pn pm ts nts fst fol pr ups : Addr)
set_option genInjectivity false in
structure GT where
 (tT tN tR : Tab) (ps : List V) (pm : List (Str × List Str)) (fst fol pr : List (Str × V)) (ups : (Str -> Bool) × Nat) (start : V)
noncomputable def zki : List Str := ["names", "Productions", "Prodnames", "Prodmap", "Terminals", "Nonterminals", "First", "Follow", "Precedence", "UsedPrecedence", "Start"]
structure Fld (fs : List (Str × V)) (g : GA) (start : V) : Prop where
 len : fs.length ≤ 20
 names : dget fs "names" = some (.ref g.nm)
 prods : dget fs "Productions" = some (.ref g.prods)
 pn : dget fs "Prodnames" = some (.ref g.pn)
 pm : dget fs "Prodmap" = some (.ref g.pm)
 ts : dget fs "Terminals" = some (.ref g.ts)
 nts : dget fs "Nonterminals" = some (.ref g.nts)
 fst : dget fs "First" = some (.ref g.fst)
 fol : dget fs "Follow" = some (.ref g.fol)
 pr : dget fs "Precedence" = some (.ref g.pr)
 ups : dget fs "UsedPrecedence" = some (.ref g.ups)
 start : dget fs "Start" = some start
 no : ∀ k, k ∉ zki -> dget fs k = none
noncomputable def GA.dicts (g : GA) : List Addr := [g.d, g.nd, g.al, g.pn, g.ts, g.nts, g.fst, g.fol, g.pr]
noncomputable def GT.lists (g : GA) (t : GT) : List Addr := g.prods :: (adr t.tT ++ (adr t.tN ++ adr t.tR))
structure GrOk (cg cr : Addr) (H : Hp) (g : GA) (t : GT) : Prop where
 I : H.I g.g = some (cg, g.d)
 fs : ∃ fs, H.D g.d = some fs ∧ Fld fs g t.start
 nI : H.I g.nm = some (cr, g.nd)
 nD : ∃ fs, H.D g.nd = some fs ∧ dget fs "aliases" = some (.ref g.al)
 al : H.D g.al = some []
 ps : H.L g.prods = some t.ps
 pm : H.P g.pm = some t.pm
 tT : Tb H g.ts t.tT
 tN : Tb H g.nts t.tN
 tR : Tb H g.pn t.tR
 fst : H.D g.fst = some t.fst
 fol : H.D g.fol = some t.fol
 pr : H.D g.pr = some t.pr
 ups : H.S g.ups = some t.ups
 gn : ∀ a, H.G a = none
 nd : g.dicts.Nodup
 na : (GT.lists g t).Nodup
 kT : (kys t.tT).Nodup
 kN : (kys t.tN).Nodup
 kR : (kys t.tR).Nodup
noncomputable def foot (g : GA) (t : GT) (a : Addr) : Prop := a ∈ g.dicts ∨ a ∈ GT.lists g t ∨ a = g.pm ∨ a = g.ups
section
variable {cg cr : Addr} {H : Hp} {g : GA} {t : GT}
theorem zcg {g : GA} {t : GT} {a : Addr} (h : a ∈ adr t.tT) : a ∈ GT.lists g t := List.mem_cons_of_mem _ (List.mem_append_left _ h)
theorem zb1 {g : GA} {t : GT} {a : Addr} (h : a ∈ adr t.tN) : a ∈ GT.lists g t := List.mem_cons_of_mem _ (List.mem_append_right _ (List.mem_append_left _ h))
theorem zch {g : GA} {t : GT} {a : Addr} (h : a ∈ adr t.tR) : a ∈ GT.lists g t := List.mem_cons_of_mem _ (List.mem_append_right _ (List.mem_append_right _ h))
theorem GrOk.ownD (h : GrOk cg cr H g t) {a : Addr} (ha : a ∈ g.dicts) : H.D a ≠ none := by
 obtain ⟨fs, e1, _⟩ := h.fs
 obtain ⟨ns, e2, _⟩ := h.nD
 simp only [GA.dicts, List.mem_cons, List.not_mem_nil, or_false] at ha
 rcases ha with rfl | rfl | rfl | rfl | rfl | rfl | rfl | rfl | rfl
 ·rw [e1]; simp
 ·rw [e2]; simp
 ·rw [h.al]; simp
 ·rw [h.tR.dict]; simp
 ·rw [h.tT.dict]; simp
 ·rw [h.tN.dict]; simp
 ·rw [h.fst]; simp
 ·rw [h.fol]; simp
 ·rw [h.pr]; simp
theorem GrOk.ownL (h : GrOk cg cr H g t) {a : Addr} (ha : a ∈ GT.lists g t) : H.L a ≠ none := by
 rcases List.mem_cons.mp ha with rfl | ha
 ·rw [h.ps]; simp
 ·rcases List.mem_append.mp ha with ha | ha
  ·obtain ⟨e, he, rfl⟩ := List.mem_map.mp ha
   rw [h.tT.lst e he]; simp
  ·rcases List.mem_append.mp ha with ha | ha
   ·obtain ⟨e, he, rfl⟩ := List.mem_map.mp ha
    rw [h.tN.lst e he]; simp
   ·obtain ⟨e, he, rfl⟩ := List.mem_map.mp ha
    rw [h.tR.lst e he]; simp
theorem GrOk.freshL (h : GrOk cg cr H g t) {a : Addr} (hf : H.Fresh a) : a ∉ GT.lists g t := fun ha => h.ownL ha hf.l
theorem GrOk.freshD (h : GrOk cg cr H g t) {a : Addr} (hf : H.Fresh a) : a ∉ g.dicts := fun ha => h.ownD ha hf.d
theorem GrOk.keep {H' : Hp} (h : GrOk cg cr H g t) (hL : ∀ a ∈ GT.lists g t, H'.L a = H.L a) (hD : ∀ a ∈ g.dicts, H'.D a = H.D a) (hP : H'.P g.pm = H.P g.pm) (hS : H'.S g.ups = H.S g.ups) (hI : H'.I g.g = H.I g.g) (hI2 : H'.I g.nm = H.I g.nm) (hG : ∀ a, H'.G a = none) : GrOk cg cr H' g t where
 I := hI.trans h.I
 fs := by
  obtain ⟨fs, e1, e2⟩ := h.fs
  exact ⟨fs, (hD _ (by simp [GA.dicts])).trans e1, e2⟩
 nI := hI2.trans h.nI
 nD := by
  obtain ⟨fs, e1, e2⟩ := h.nD
  exact ⟨fs, (hD _ (by simp [GA.dicts])).trans e1, e2⟩
 al := (hD _ (by simp [GA.dicts])).trans h.al
 ps := (hL _ (List.mem_cons_self ..)).trans h.ps
 pm := hP.trans h.pm
 tT := h.tT.keep (hD _ (by simp [GA.dicts])) fun a ha => hL a (zcg ha)
 tN := h.tN.keep (hD _ (by simp [GA.dicts])) fun a ha => hL a (zb1 ha)
 tR := h.tR.keep (hD _ (by simp [GA.dicts])) fun a ha => hL a (zch ha)
 fst := (hD _ (by simp [GA.dicts])).trans h.fst
 fol := (hD _ (by simp [GA.dicts])).trans h.fol
 pr := (hD _ (by simp [GA.dicts])).trans h.pr
 ups := hS.trans h.ups
 gn := hG
 nd := h.nd
 na := h.na
 kT := h.kT
 kN := h.kN
 kR := h.kR
noncomputable def GT.setL (g : GA) (t : GT) (a : Addr) (ys : List V) : GT := { t with tT := tset t.tT a ys, tN := tset t.tN a ys, tR := tset t.tR a ys, ps := if g.prods = a then ys else t.ps }
theorem zfw {a : Addr} {ys : List V} : GT.lists g (t.setL g a ys) = GT.lists g t := by
 unfold GT.lists GT.setL
 simp only [zl4]
theorem GrOk.setL (h : GrOk cg cr H g t) {a : Addr} (ys : List V) : GrOk cg cr (H.aL a ys) g (t.setL g a ys) where
 I := h.I
 fs := h.fs
 nI := h.nI
 nD := h.nD
 al := h.al
 ps := by
  show up H.L a ys g.prods = some (if g.prods = a then ys else t.ps)
  by_cases e : g.prods = a
  ·rw [if_pos e, e]; exact zac _ _ _
  ·rw [if_neg e, zak e]; exact h.ps
 pm := h.pm
 tT := h.tT.set rfl (zac _ _ _) fun b hb => zak hb
 tN := h.tN.set rfl (zac _ _ _) fun b hb => zak hb
 tR := h.tR.set rfl (zac _ _ _) fun b hb => zak hb
 fst := h.fst
 fol := h.fol
 pr := h.pr
 ups := h.ups
 gn := h.gn
 nd := h.nd
 na := by rw [zfw]; exact h.na
 kT := by show (kys (tset _ _ _)).Nodup; rw [zdn]; exact h.kT
 kN := by show (kys (tset _ _ _)).Nodup; rw [zdn]; exact h.kN
 kR := by show (kys (tset _ _ _)).Nodup; rw [zdn]; exact h.kR
theorem GrOk.apart (h : GrOk cg cr H g t) : g.prods ∉ adr t.tT ∧ g.prods ∉ adr t.tN ∧ g.prods ∉ adr t.tR ∧ (adr t.tT).Nodup ∧ (adr t.tN).Nodup ∧ (adr t.tR).Nodup ∧ (∀ a ∈ adr t.tT, a ∉ adr t.tN ∧ a ∉ adr t.tR) ∧ (∀ a ∈ adr t.tN, a ∉ adr t.tR) := by
 have := h.na
 unfold GT.lists at this
 rw [List.nodup_cons, List.nodup_append, List.nodup_append] at this
 obtain ⟨h1, h2, ⟨h3, h4, h5⟩, h6⟩ := this
 simp only [List.mem_append, not_or] at h1
 refine ⟨h1.1, h1.2.1, h1.2.2, h2, h3, h4, fun a ha => ⟨fun hb => h6 a ha a (List.mem_append_left _ hb) rfl, fun hb => h6 a ha a (List.mem_append_right _ hb) rfl⟩, fun a ha hb => h5 a ha a hb rfl⟩
theorem zt0 (h : GrOk cg cr H g t) {a : Addr} {ys : List V} (ha : a ∈ adr t.tT) : t.setL g a ys = { t with tT := tset t.tT a ys } := by
 obtain ⟨h1, h2, h3, h4, h5, h6, h7, h8⟩ := h.apart
 unfold GT.setL
 rw [zbs (h7 a ha).1, zbs (h7 a ha).2, if_neg (show ¬ g.prods = a from fun e => h1 (by rw [e]; exact ha))]
theorem zrb (h : GrOk cg cr H g t) {a : Addr} {ys : List V} (ha : a ∈ adr t.tN) : t.setL g a ys = { t with tN := tset t.tN a ys } := by
 obtain ⟨h1, h2, h3, h4, h5, h6, h7, h8⟩ := h.apart
 unfold GT.setL
 rw [zbs (fun hb => (h7 a hb).1 ha), zbs (h8 a ha), if_neg (show ¬ g.prods = a from fun e => h2 (by rw [e]; exact ha))]
theorem zt1 (h : GrOk cg cr H g t) {a : Addr} {ys : List V} (ha : a ∈ adr t.tR) : t.setL g a ys = { t with tR := tset t.tR a ys } := by
 obtain ⟨h1, h2, h3, h4, h5, h6, h7, h8⟩ := h.apart
 unfold GT.setL
 rw [zbs (fun hb => (h7 a hb).2 ha), zbs (fun hb => h8 a hb ha), if_neg (show ¬ g.prods = a from fun e => h3 (by rw [e]; exact ha))]
theorem zod (h : GrOk cg cr H g t) {ys : List V} : t.setL g g.prods ys = { t with ps := ys } := by
 obtain ⟨h1, h2, h3, h4, h5, h6, h7, h8⟩ := h.apart
 unfold GT.setL
 rw [zbs h1, zbs h2, zbs h3, if_pos rfl]
theorem GrOk.dn (h : GrOk cg cr H g t) (i j : Nat) {a b : Addr} (ha : g.dicts[i]? = some a) (hb : g.dicts[j]? = some b) (hij : i ≠ j) : a ≠ b := by
 rintro rfl
 exact hij ((List.getElem?_inj (List.getElem?_eq_some_iff.mp ha).1 h.nd).mp (ha.trans hb.symm))
theorem GrOk.newN (h : GrOk cg cr H g t) {k : Str} {a : Addr} {xs : List V} (hk : k ∉ kys t.tN) (hf : H.Fresh a) : GrOk cg cr ((H.aL a xs).aD g.nts (dput (tof t.tN) k (.ref a))) g { t with tN := t.tN ++ [(k, a, xs)] } := by
 have hl := h.freshL hf
 have hne : ∀ b ∈ GT.lists g t, b ≠ a := fun b hb e => hl (e ▸ hb)
 have keepT : ∀ {t' : Tab} {d : Addr}, Tb H d t' -> d ≠ g.nts -> (∀ b ∈ adr t', b ≠ a) -> Tb ((H.aL a xs).aD g.nts (dput (tof t.tN) k (.ref a))) d t' := fun x hd hb => x.keep (zak hd) fun b hb' => zak (hb b hb')
 obtain ⟨fs, fs1, fs2⟩ := h.fs
 obtain ⟨ns, ns1, ns2⟩ := h.nD
 refine ⟨h.I, ⟨fs, upe (h.dn 0 5 rfl rfl (by decide)) fs1, fs2⟩, h.nI, ⟨ns, upe (h.dn 1 5 rfl rfl (by decide)) ns1, ns2⟩, upe (h.dn 2 5 rfl rfl (by decide)) h.al, upe (hne _ (List.mem_cons_self ..)) h.ps, h.pm, keepT h.tT (h.dn 4 5 rfl rfl (by decide)) fun b hb => hne b (zcg hb), h.tN.new hk (zac _ _ _) (zac _ _ _) (fun b hb => zak (hne b (zb1 hb))), keepT h.tR (h.dn 3 5 rfl rfl (by decide)) fun b hb => hne b (zch hb), upe (Ne.symm (h.dn 5 6 rfl rfl (by decide))) h.fst, upe (Ne.symm (h.dn 5 7 rfl rfl (by decide))) h.fol, upe (Ne.symm (h.dn 5 8 rfl rfl (by decide))) h.pr, h.ups, h.gn, h.nd, ?_, h.kT, ?_, h.kR⟩
 ·have : GT.lists g { t with tN := t.tN ++ [(k, a, xs)] } = g.prods :: (adr t.tT ++ ((adr t.tN ++ [a]) ++ adr t.tR)) := by simp [GT.lists, adr]
  rw [this]
  have p : (g.prods :: (adr t.tT ++ ((adr t.tN ++ [a]) ++ adr t.tR))).Perm (a :: GT.lists g t) := by
   unfold GT.lists
   refine (List.Perm.cons _ ?_).trans (List.Perm.swap _ _ _)
   refine (List.Perm.append_left _ (List.Perm.append_right _ List.perm_append_comm)).trans ?_
   simp only [List.singleton_append, List.cons_append, List.nil_append]
   exact List.perm_middle
  rw [p.nodup_iff, List.nodup_cons]
  exact ⟨hl, h.na⟩
 ·have : kys (t.tN ++ [(k, a, xs)]) = kys t.tN ++ [k] := by simp [kys]
  show (kys (t.tN ++ [(k, a, xs)])).Nodup
  rw [this, List.nodup_append]
  exact ⟨h.kN, by simp, fun b hb c hc => by simp at hc; subst hc; exact fun e => hk (e ▸ hb)⟩
theorem GrOk.newR (h : GrOk cg cr H g t) {k : Str} {a : Addr} {xs : List V} (hk : k ∉ kys t.tR) (hf : H.Fresh a) : GrOk cg cr ((H.aL a xs).aD g.pn (dput (tof t.tR) k (.ref a))) g { t with tR := t.tR ++ [(k, a, xs)] } := by
 have hl := h.freshL hf
 have hne : ∀ b ∈ GT.lists g t, b ≠ a := fun b hb e => hl (e ▸ hb)
 have keepT : ∀ {t' : Tab} {d : Addr}, Tb H d t' -> d ≠ g.pn -> (∀ b ∈ adr t', b ≠ a) -> Tb ((H.aL a xs).aD g.pn (dput (tof t.tR) k (.ref a))) d t' := fun x hd hb => x.keep (zak hd) fun b hb' => zak (hb b hb')
 obtain ⟨fs, fs1, fs2⟩ := h.fs
 obtain ⟨ns, ns1, ns2⟩ := h.nD
 refine ⟨h.I, ⟨fs, upe (h.dn 0 3 rfl rfl (by decide)) fs1, fs2⟩, h.nI, ⟨ns, upe (h.dn 1 3 rfl rfl (by decide)) ns1, ns2⟩, upe (h.dn 2 3 rfl rfl (by decide)) h.al, upe (hne _ (List.mem_cons_self ..)) h.ps, h.pm, keepT h.tT (Ne.symm (h.dn 3 4 rfl rfl (by decide))) fun b hb => hne b (zcg hb), keepT h.tN (Ne.symm (h.dn 3 5 rfl rfl (by decide))) fun b hb => hne b (zb1 hb), h.tR.new hk (zac _ _ _) (zac _ _ _) (fun b hb => zak (hne b (zch hb))), upe (Ne.symm (h.dn 3 6 rfl rfl (by decide))) h.fst, upe (Ne.symm (h.dn 3 7 rfl rfl (by decide))) h.fol, upe (Ne.symm (h.dn 3 8 rfl rfl (by decide))) h.pr, h.ups, h.gn, h.nd, ?_, h.kT, h.kN, ?_⟩
 ·have : GT.lists g { t with tR := t.tR ++ [(k, a, xs)] } = g.prods :: (adr t.tT ++ (adr t.tN ++ (adr t.tR ++ [a]))) := by simp [GT.lists, adr]
  rw [this]
  have p : (g.prods :: (adr t.tT ++ (adr t.tN ++ (adr t.tR ++ [a])))).Perm (a :: GT.lists g t) := by
   have e : (g.prods :: (adr t.tT ++ (adr t.tN ++ (adr t.tR ++ [a])))) = GT.lists g t ++ [a] := by simp [GT.lists]
   rw [e]; exact List.perm_append_singleton _ _
  rw [p.nodup_iff, List.nodup_cons]
  exact ⟨hl, h.na⟩
 ·have : kys (t.tR ++ [(k, a, xs)]) = kys t.tR ++ [k] := by simp [kys]
  show (kys (t.tR ++ [(k, a, xs)])).Nodup
  rw [this, List.nodup_append]
  exact ⟨h.kR, by simp, fun b hb c hc => by simp at hc; subst hc; exact fun e => hk (e ▸ hb)⟩
theorem GrOk.setP (h : GrOk cg cr H g t) (ks : List (Str × List Str)) : GrOk cg cr (H.aP g.pm ks) g { t with pm := ks } :=
 ⟨h.I, h.fs, h.nI, h.nD, h.al, h.ps, zac _ _ _, h.tT.keep rfl fun J J => rfl, h.tN.keep rfl fun J J => rfl, h.tR.keep rfl fun J J => rfl, h.fst, h.fol, h.pr, h.ups, h.gn, h.nd, h.na, h.kT, h.kN, h.kR⟩
noncomputable def zbd (m : List (Str × List V)) (k : Str) (v : V) : List (Str × List V) := m.map fun p => if p.1 = k then (p.1, p.2 ++ [v]) else p
noncomputable def za2 (m : List (Str × List V)) (k : Str) : List (Str × List V) := if k ∈ m.map (·.1) then m else m ++ [(k, [])]
noncomputable def za8 (v : V) : List (Str × List V) × List (Str × List V) -> List Str -> List (Str × List V) × List (Str × List V)
 | (T, N), [] => (T, N)
 | (T, N), s :: r => if s ∈ T.map (·.1) then za8 v (zbd T s v, N) r else za8 v (T, zbd (za2 N s) s v) r
theorem zdo (v : V) : ∀ (l : List Str) (x : List (Str × List V) × List (Str × List V)) (s : Str), za8 v x (l ++ [s]) = za8 v (za8 v x l) [s]
 | [], (T, N), s => rfl
 | a :: l, (T, N), s => by
  show (if _ then _ else _) = za8 v (if _ then _ else _) [s]
  split
  ·exact zdo v l _ s
  ·exact zdo v l _ s
theorem zal (t : Tab) : (tcon t).map (·.1) = kys t := by unfold tcon kys; rw [List.map_map]; rfl
theorem zci (m : List (Str × List V)) (k : Str) (v : V) : (zbd m k v).map (·.1) = m.map (·.1) := by
 unfold zbd
 rw [List.map_map]
 exact List.map_congr_left fun p J => by simp only [Function.comp]; split <;> rfl
theorem ziw {t : Tab} {k : Str} {a : Addr} {xs : List V} {v : V} (hk : (kys t).Nodup) (ha : (adr t).Nodup) (e : tget t k = some (a, xs)) : tcon (tset t a (xs ++ [v])) = zbd (tcon t) k v := by
 rw [zju hk ha e]
 unfold zbd
 refine List.map_congr_left fun p hp => ?_
 by_cases h : p.1 = k
 ·rw [if_pos h, if_pos h]
  obtain ⟨q, hq, rfl⟩ := List.mem_map.mp hp
  have : q = (k, a, xs) := ze9 hk hq (zbk e) h
  rw [this]
 ·rw [if_neg h, if_neg h]
end
section
variable {F : Fx} {n : Nat} {loc : Loc} {H : Hp}
theorem zsb {st : Stmt} {rest : List Stmt} {Q : Fl -> Loc -> Hp -> Prop} (M : Loc -> Hp -> Prop) (h : WS F st loc H fun f l1 H1 => match f with | .next => M l1 H1 | f => Q f l1 H1) (k : ∀ l H, M l H -> WSs F rest l H Q) : WSs F (st :: rest) loc H Q :=
 zaa (h.mono fun f l H q => by cases f <;> first | exact k _ _ q | exact q)
end
section
variable {cg cr : Addr} {H : Hp} {g : GA} {t : GT}
structure Sz (m : Nat) (t : GT) : Prop where
 T : (kys t.tT).length ≤ m
 N : (kys t.tN).length ≤ m
 R : (kys t.tR).length ≤ m
 lT : ∀ e ∈ t.tT, e.2.2.length ≤ m
 lN : ∀ e ∈ t.tN, e.2.2.length ≤ m
 lR : ∀ e ∈ t.tR, e.2.2.length ≤ m
 ps : t.ps.length ≤ m
 pm : t.pm.length ≤ m
theorem Sz.mono {m m' : Nat} (h : Sz m t) (k : m ≤ m') : Sz m' t :=
 ⟨Nat.le_trans h.T k, Nat.le_trans h.N k, Nat.le_trans h.R k, fun e he => Nat.le_trans (h.lT e he) k, fun e he => Nat.le_trans (h.lN e he) k, fun e he => Nat.le_trans (h.lR e he) k, Nat.le_trans h.ps k, Nat.le_trans h.pm k⟩
theorem zix {t : Tab} {a : Addr} {ys : List V} {m : Nat} (h : ∀ e ∈ t, e.2.2.length ≤ m) (hy : ys.length ≤ m) : ∀ e ∈ tset t a ys, e.2.2.length ≤ m := fun e he => by
 obtain ⟨e', he', rfl⟩ := List.mem_map.mp he
 split
 ·exact hy
 ·exact h e' he'
theorem Sz.setL {m : Nat} (h : Sz m t) {a : Addr} {ys : List V} (hy : ys.length ≤ m) : Sz m (t.setL g a ys) := by
 refine ⟨?_, ?_, ?_, zix h.lT hy, zix h.lN hy, zix h.lR hy, ?_, h.pm⟩
 ·show (kys (tset _ _ _)).length ≤ m; rw [zdn]; exact h.T
 ·show (kys (tset _ _ _)).length ≤ m; rw [zdn]; exact h.N
 ·show (kys (tset _ _ _)).length ≤ m; rw [zdn]; exact h.R
 ·show (if g.prods = a then ys else t.ps).length ≤ m
  split
  ·exact hy
  ·exact h.ps
theorem zsc {t : Tab} {k : Str} {a : Addr} {xs : List V} {m : Nat} (h : ∀ e ∈ t, e.2.2.length ≤ m) (hy : xs.length ≤ m) : ∀ e ∈ t ++ [(k, a, xs)], e.2.2.length ≤ m := fun e he => by
 rcases List.mem_append.mp he with he | he
 ·exact h e he
 ·simp at he; subst he; exact hy
theorem zp3 {t : Tab} {k : Str} {a : Addr} {xs : List V} : (kys (t ++ [(k, a, xs)])).length = (kys t).length + 1 := by simp [kys]
structure zkj (t t' : GT) : Prop where
 fst : t'.fst = t.fst
 fol : t'.fol = t.fol
 pr : t'.pr = t.pr
 ups : t'.ups = t.ups
 start : t'.start = t.start
theorem zl5 {a : Addr} (h : a ∈ GT.lists g t) : foot g t a := .inr (.inl h)
theorem zl6 {a : Addr} (h : a ∈ g.dicts) : foot g t a := .inl h
noncomputable def zdr (H : Hp) (g : GA) (t t' : GT) : Prop := ∀ a ∈ GT.lists g t', a ∈ GT.lists g t ∨ H.Fresh a
theorem zdr.refl (H : Hp) (g : GA) (t : GT) : zdr H g t t := fun a h => .inl h
theorem Ext.of_foot {H1 H2 : Hp} {t' : GT} (h : Ext (foot g t) H H1) (k : Ext (foot g t') H1 H2) (gr : zdr H g t t') : Ext (foot g t) H H2 := fun a o => by
 obtain ⟨o1, s1⟩ := h a o
 obtain ⟨o2, s2⟩ := k a o1
 refine ⟨o2, fun hf => (s2 fun z => ?_).trans (s1 hf)⟩
 rcases z with z | z | z
 ·exact hf (.inl z)
 ·rcases gr a z with z | z
  ·exact hf (.inr (.inl z))
  ·exact z o
 ·exact hf (.inr (.inr z))
theorem zdr.newN {k : Str} {a : Addr} {xs : List V} {t1 : GT} (h : zdr H g t t1) (hf : H.Fresh a) : zdr H g t { t1 with tN := t1.tN ++ [(k, a, xs)] } := fun b hb => by
 have : GT.lists g { t1 with tN := t1.tN ++ [(k, a, xs)] } = g.prods :: (adr t1.tT ++ ((adr t1.tN ++ [a]) ++ adr t1.tR)) := by simp [GT.lists, adr]
 rw [this] at hb
 simp only [List.mem_cons, List.mem_append, List.not_mem_nil, or_false] at hb
 rcases hb with hb | hb | (hb | hb) | hb
 ·exact h b (by rw [hb]; exact List.mem_cons_self ..)
 ·exact h b (zcg hb)
 ·exact h b (zb1 hb)
 ·subst hb; exact .inr hf
 ·exact h b (zch hb)
theorem zdr.newR {k : Str} {a : Addr} {xs : List V} {t1 : GT} (h : zdr H g t t1) (hf : H.Fresh a) : zdr H g t { t1 with tR := t1.tR ++ [(k, a, xs)] } := fun b hb => by
 have : GT.lists g { t1 with tR := t1.tR ++ [(k, a, xs)] } = g.prods :: (adr t1.tT ++ (adr t1.tN ++ (adr t1.tR ++ [a]))) := by simp [GT.lists, adr]
 rw [this] at hb
 simp only [List.mem_cons, List.mem_append, List.not_mem_nil, or_false] at hb
 rcases hb with hb | hb | hb | hb | hb
 ·exact h b (by rw [hb]; exact List.mem_cons_self ..)
 ·exact h b (zcg hb)
 ·exact h b (zb1 hb)
 ·exact h b (zch hb)
 ·subst hb; exact .inr hf
theorem zdr.lists {t1 t2 : GT} (h : zdr H g t t1) (e : GT.lists g t2 = GT.lists g t1) : zdr H g t t2 := fun b hb => h b (e ▸ hb)
structure ApSt (cg cr : Addr) (H : Hp) (g : GA) (t : GT) (m : Nat) (u : List (Str × List V) × List (Str × List V)) (H' : Hp) (t1 : GT) : Prop where
 gr : GrOk cg cr H' g t1
 ext : Ext (foot g t) H H'
 grown : zdr H g t t1
 sz : Sz m t1
 R : t1.tR = t.tR
 ps : t1.ps = t.ps
 pm : t1.pm = t.pm
 keeps : zkj t t1
 uses : (tcon t1.tT, tcon t1.tN) = u
variable {m : Nat} {T N : List (Str × List V)} {H' : Hp} {t1 : GT}
theorem ApSt.mono {m' : Nat} {u} (h : ApSt cg cr H g t m u H' t1) (k : m ≤ m') : ApSt cg cr H g t m' u H' t1 := { h with sz := h.sz.mono k }
theorem ApSt.extL (h : ApSt cg cr H g t m (T, N) H' t1) {a : Addr} (ha : a ∈ GT.lists g t1) (ys : List V) : Ext (foot g t) H (H'.aL a ys) :=
 h.ext.of_foot (Lay.extL (.inl (zl5 ha))) h.grown
theorem ApSt.useT (h : ApSt cg cr H g t m (T, N) H' t1) {s : Str} {a : Addr} {xs : List V} {v : V} (e : tget t1.tT s = some (a, xs)) : ApSt cg cr H g t (m + 1) (zbd T s v, N) (H'.aL a (xs ++ [v])) { t1 with tT := tset t1.tT a (xs ++ [v]) } := by
 have ha : a ∈ adr t1.tT := List.mem_map.mpr ⟨_, zbk e, rfl⟩
 have hs := zt0 (ys := xs ++ [v]) h.gr ha
 have g2 := h.gr.setL (a := a) (xs ++ [v])
 rw [hs] at g2
 have hx := h.sz.lT _ (zbk e)
 have s2 := (h.sz.mono (Nat.le_succ m)).setL (g := g) (a := a) (ys := xs ++ [v]) (by simp at hx ⊢; lia)
 rw [hs] at s2
 have hu := h.uses
 injection hu with u1 u2
 refine ⟨g2, h.extL (zcg ha) _, h.grown.lists (by rw [← hs]; exact zfw), s2, h.R, h.ps, h.pm, ⟨h.keeps.fst, h.keeps.fol, h.keeps.pr, h.keeps.ups, h.keeps.start⟩, ?_⟩
 show (tcon (tset t1.tT a (xs ++ [v])), tcon t1.tN) = _
 rw [ziw h.gr.kT h.gr.apart.2.2.2.1 e, u1, u2]
theorem ApSt.useN (h : ApSt cg cr H g t m (T, N) H' t1) {s : Str} {a : Addr} {xs : List V} {v : V} (e : tget t1.tN s = some (a, xs)) : ApSt cg cr H g t (m + 1) (T, zbd N s v) (H'.aL a (xs ++ [v])) { t1 with tN := tset t1.tN a (xs ++ [v]) } := by
 have ha : a ∈ adr t1.tN := List.mem_map.mpr ⟨_, zbk e, rfl⟩
 have hs := zrb (ys := xs ++ [v]) h.gr ha
 have g2 := h.gr.setL (a := a) (xs ++ [v])
 rw [hs] at g2
 have hx := h.sz.lN _ (zbk e)
 have s2 := (h.sz.mono (Nat.le_succ m)).setL (g := g) (a := a) (ys := xs ++ [v]) (by simp at hx ⊢; lia)
 rw [hs] at s2
 have hu := h.uses
 injection hu with u1 u2
 refine ⟨g2, h.extL (zb1 ha) _, h.grown.lists (by rw [← hs]; exact zfw), s2, h.R, h.ps, h.pm, ⟨h.keeps.fst, h.keeps.fol, h.keeps.pr, h.keeps.ups, h.keeps.start⟩, ?_⟩
 show (tcon t1.tT, tcon (tset t1.tN a (xs ++ [v]))) = _
 rw [ziw h.gr.kN h.gr.apart.2.2.2.2.1 e, u1, u2]
theorem ApSt.keyN (h : ApSt cg cr H g t m (T, N) H' t1) {s : Str} {a : Addr} (hk : s ∉ kys t1.tN) (ha : H'.Fresh a) : ApSt cg cr H g t (m + 1) (T, za2 N s) ((H'.aL a []).aD g.nts (dput (tof t1.tN) s (.ref a))) { t1 with tN := t1.tN ++ [(s, a, [])] } := by
 have hu := h.uses
 injection hu with u1 u2
 have hf : H.Fresh a := h.ext.fresh ha
 have sz := h.sz.mono (Nat.le_succ m)
 refine ⟨h.gr.newN hk ha, ?_, h.grown.newN hf, ⟨sz.T, ?_, sz.R, sz.lT, zsc sz.lN (by simp), sz.lR, sz.ps, sz.pm⟩, h.R, h.ps, h.pm, ⟨h.keeps.fst, h.keeps.fol, h.keeps.pr, h.keeps.ups, h.keeps.start⟩, ?_⟩
 ·exact h.ext.of_foot ((Lay.extL (.inr ha)).trans (extD (.inl (zl6 (by simp [GA.dicts]))))) h.grown
 ·show (kys (t1.tN ++ [(s, a, [])])).length ≤ m + 1
  rw [zp3]; have := h.sz.N; lia
 ·show (tcon t1.tT, tcon (t1.tN ++ [(s, a, [])])) = _
  have : s ∉ N.map (·.1) := by rw [← u2, zal]; exact hk
  unfold za2
  rw [if_neg this, ← u1, ← u2]
  simp [tcon]
theorem zfx {s : Str} (h : s ∈ N.map (·.1)) : za2 N s = N := by unfold za2; rw [if_pos h]
theorem ApSt.fldT (h : ApSt cg cr H g t m (T, N) H' t1) (s : Str) : s ∈ T.map (·.1) ↔ s ∈ kys t1.tT := by
 have hu := h.uses
 injection hu with u1 u2
 rw [← u1, zal]
theorem ApSt.fldN (h : ApSt cg cr H g t m (T, N) H' t1) (s : Str) : s ∈ N.map (·.1) ↔ s ∈ kys t1.tN := by
 have hu := h.uses
 injection hu with u1 u2
 rw [← u2, zal]
end
section
variable {H H' : Hp} {d a : Addr} {tF : Tab} {fi : Str -> List Str} {k : Str} {xs : List Str}
end
section
variable {cg cr : Addr} {H : Hp} {g : GA} {t : GT}
theorem GrOk.keepL (h : GrOk cg cr H g t) {a : Addr} (ha : a ∉ GT.lists g t) (ys : List V) : GrOk cg cr (H.aL a ys) g t :=
 h.keep (fun b hb => zak (fun e => ha (e ▸ hb))) (fun J J => rfl) rfl rfl rfl rfl h.gn
variable {H0 : Hp} {tF tW : Tab} {fi fo : Str -> List Str} {k : Str} {a : Addr} {xs : List Str}
end
section
variable {prog : Program} {w : World} {A : Around} {E : Value -> Shared -> Prop} {s : Shared} {env : Env}
end
section
variable {F : Fx} {n : Nat} {loc : Loc} {H : Hp}
end
theorem zem : ∀ (names : List (Str × NameKind)) (k : Nat) (acc : List (Str × Addr)), names.filter (·.2 == .cell) = [] -> cellsFrom k names acc = acc
 | [], _, _, _ => rfl
 | (x, kd) :: r, k, acc, h => by
  rw [List.filter_cons] at h
  unfold cellsFrom
  split at h
  ·cases h
  ·rename_i hn
   simp only at hn
   rw [if_neg hn]; exact zem r k acc h
theorem zen : ∀ (names : List (Str × NameKind)) (hp : Heap), names.filter (·.2 == .cell) = [] -> pushCells hp names = hp
 | [], _, _ => rfl
 | (x, kd) :: r, hp, h => by
  rw [List.filter_cons] at h
  unfold pushCells
  split at h
  ·cases h
  ·rename_i hn
   simp only at hn
   rw [if_neg hn]; exact zen r hp h
theorem zfa {x0 : Str} : ∀ (names : List (Str × NameKind)) (k : Nat) (acc : List (Str × Addr)), names.filter (·.2 == .cell) = [(x0, .cell)] -> cellsFrom k names acc = (x0, k) :: acc
 | [], _, _, h => by cases h
 | (x, kd) :: r, k, acc, h => by
  rw [List.filter_cons] at h
  unfold cellsFrom
  split at h
  ·rename_i hn
   simp only at hn
   injection h with h1 h2
   injection h1 with h1 h3
   subst h1
   rw [if_pos hn]; exact zem r _ _ h2
  ·rename_i hn
   simp only at hn
   rw [if_neg hn]; exact zfa r k acc h
theorem zfb {x0 : Str} : ∀ (names : List (Str × NameKind)) (hp : Heap), names.filter (·.2 == .cell) = [(x0, .cell)] -> pushCells hp names = hp.push { cls := .type "cell", data := .cell none }
 | [], _, h => by cases h
 | (x, kd) :: r, hp, h => by
  rw [List.filter_cons] at h
  unfold pushCells
  split at h
  ·rename_i hn
   simp only at hn
   injection h with h1 h2
   rw [if_pos hn]; exact zen r _ h2
  ·rename_i hn
   simp only at hn
   rw [if_neg hn]; exact zfb r hp h
theorem zk3 {prog : Program} {w : World} {A : Around} {E : Value -> Shared -> Prop} {s : Shared} {scope : Scope} {globals : Addr} {cl : List (Str × Addr)} {qual : Str} {outer : Env} {x0 : Str} {Q : Env -> Shared -> Prop} (hone : scope.names.filter (·.2 == .cell) = [(x0, .cell)])
  (hQ : Q (newEnv scope s.heap.objs.size globals ((x0, s.heap.objs.size + 1) :: cl) qual none .none (some outer) builtinsNs) { s with heap := (s.heap.push { cls := .type "dict", data := .dict #[] }).push { cls := .type "cell", data := .cell none } }) :
  wpAny (model prog w) A (newFunctionEnv scope globals cl [] qual none .none (some outer)) Q E s := by
 simp only [newFunctionEnv, Option.isSome_some, if_true]
 refine wpAny_bind (wpAny_alloc ?_)
 refine wpAny_bind (wpAny_layCells _ (fun name kind cells => by cases hkc : kind == NameKind.cell <;> simp [hkc]) _ _ _ _ ?_)
 rw [show ({ s with heap := s.heap.push { cls := .type "dict", data := .dict #[] } } : Shared).heap.objs.size = s.heap.objs.size + 1 from Heap.size_push .., zfa _ _ _ hone, zfb _ _ hone]
 exact wpAny_bind (wpAny_pure (wpAny_pure hQ))
noncomputable abbrev Hp.cel (H : Hp) (a : Addr) (ov : Option V) : Hp := ⟨H.L, H.D, H.P, H.S, H.I, up H.C a ov, H.G⟩
section
variable {F : Fx} {n : Nat} {loc : Loc} {H : Hp}
noncomputable abbrev zfl (F : Fx) (target elt : Expr) (ifs : List Expr) (l : Loc) (H : Hp) (ca : Addr) (ov : Option V) (x : V) (out : Option V) : Prop := zeb F target elt ifs l (H.cel ca) ov x out
noncomputable def zph (F : Fx) (n : Nat) (target elt : Expr) (ifs : List Expr) (scope : Scope) (x0 : Str) (cl : List (Str × Addr)) (St : Nat -> ItS) (xs : List V) (f : V -> Option V) (H : Hp) : Prop :=
 (∀ i, zdi (St i)) ∧ xs.length ≤ 100000 ∧ ∀ C sv E, H.Fresh (C + 1) -> Ok (CFx F scope ((x0, C + 1) :: cl) C sv E) n -> zkg (CFx F scope ((x0, C + 1) :: cl) C sv E) (St 0) ∧
  (∀ i x ov, xs[i]? = some x -> Nxt (CFx F scope ((x0, C + 1) :: cl) C sv E) target (St i) (H.cel (C + 1) ov) (some (x, St (i + 1))) ∧ zfl (CFx F scope ((x0, C + 1) :: cl) C sv E) target elt ifs (zdt scope) H (C + 1) ov x (f x)) ∧ ∀ ov, Nxt (CFx F scope ((x0, C + 1) :: cl) C sv E) target (St xs.length) (H.cel (C + 1) ov) none
theorem zm5 (ok : Ok F n) {elt target iter : Expr} {ifs : List Expr} {scope : Scope} {pos : Pos} {cl : List (Str × Addr)} {St : Nat -> ItS} {xs : List V} {f : V -> Option V} (hifs : ifs = [] ∨ ∃ c, ifs = [c])
  {x0 : Str} (hone : scope.names.filter (·.2 == .cell) = [(x0, .cell)]) (hkind : scope.kind = .function) (hdbg : (relabel scope F.env).names.lookup ("__debug__" : Str) = none) (K : zph F n target elt ifs scope x0 cl St xs f H)
  {B0 B : Keep} {s : Shared} {a : Addr} {l : Loc} (R : FRel F B l H s) (le : Le B0 B) (st : St 0 B0 B a) {RR : Value -> Addr -> Result -> Shared -> Prop}
  (hRR : ∀ D C oC s' B', Le B0 B' -> FRel (F.svd ((C, oC) :: F.c.saved)) B' l H s' -> (∃ m', s'.heap.Ns C m') -> (∀ p ∈ F.c.saved, p.1 ≠ C) -> RelV B' (.ref D) (.list (xs.filterMap f)) -> RR (.ref D) C (.ok .next) s') :
  wpAny F.M F.A (newList []) (fun acc s3 => wpAny F.M F.A (newFunctionEnv scope F.env.globals cl [] F.env.qual none .none (some F.env)) (fun cenv s4 =>
   codeAny F.M F.A (.compStart (.ListComp elt [⟨target, iter, ifs, 0⟩] scope pos) 0 (.ref a) acc { cenv with scope := relabel scope F.env }) (RR acc cenv.locals) s4) F.E s3) F.E s := by
 obtain ⟨Kmono, Klen, Kt⟩ := K
 refine zl0 (B0 := B0) R fun D s1 i0 k0 R2 r0 hlimD hsD hDL hHD => ?_
 obtain ⟨mL1, ⟨oL1, esL1, epL1, hL1, hdL1, hkL1⟩, hlL1⟩ := R2.ns
 refine zk3 hone ?_
 have hk : ∀ b o, s1.heap.get? b = some o -> ((s1.heap.push { cls := .type "dict", data := .dict #[] }).push { cls := .type "cell", data := .cell none }).get? b = some o := fun b o e => Heap.get?_push_of_some _ (Heap.get?_push_of_some _ e)
 have hns : ((s1.heap.push { cls := .type "dict", data := .dict #[] }).push { cls := .type "cell", data := .cell none }).Ns s1.heap.objs.size (fun J => none) := (Heap.Ns.new s1.heap (.type "dict")).keeps fun b o e => Heap.get?_push_of_some _ e
 have hcel : ((s1.heap.push { cls := .type "dict", data := .dict #[] }).push { cls := .type "cell", data := .cell none }).IsCell (s1.heap.objs.size + 1) none := by
  have := Heap.get?_push_size (s1.heap.push { cls := .type "dict", data := .dict #[] }) (o := { cls := .type "cell", data := .cell none }) rfl
  rw [Heap.size_push] at this
  exact ⟨_, this, rfl⟩
 generalize ((s1.heap.push { cls := .type "dict", data := .dict #[] }).push { cls := .type "cell", data := .cell none }) = h' at hk hns hcel
 have hf1 := R2.fresh (a := s1.heap.objs.size + 1) (Nat.le_succ _)
 have hn1 := R2.nobody hf1.1
 have hFr : H.Fresh (s1.heap.objs.size + 1) := R2.fresh_H hf1.1
 generalize hC : s1.heap.objs.size = C at hns hcel hf1 hn1 hFr
 have R3 : CR F scope C D oL1 (H.cel (C + 1)) i0 k0 none (zdt scope) B { s1 with heap := h' } := by
  have Ra := (R2.into (s' := { s1 with heap := h' }) hL1 hk (Nat.le_of_eq hC) hns (nm' := (relabel scope F.env).names) (loc' := zdt scope) (by
   intro x i X _ hl
   have := zg2 (l := []) i X hl
   simp at this) rfl rfl).svmem (l2 := (D, zb2 i0 k0) :: (F.L, oL1) :: F.c.saved) (fun p hp => by
   simp only [List.mem_cons] at hp ⊢
   rcases hp with h | h | h
   ·exact .inr (.inl h)
   ·exact .inl h
   ·exact .inr (.inr h))
  have Rb := Ra.adopts (bV := []) (cm := fun J => none) (cs := [(x0, C + 1)]) (fun n a hm => by
   simp only [List.mem_singleton] at hm
   injection hm with e1 e2
   subst e1; subst e2
   refine ⟨hn1.1, hFr, Nat.succ_ne_self _, ?_, hf1.2, hcel, trivial⟩
   intro p hp e
   simp only [List.mem_cons] at hp
   rcases hp with h | h | h
   ·exact hn1.2.2.2 p (by rw [h]; exact .head _) e
   ·rw [h] at e; exact hn1.2.2.1 e.symm
   ·exact hn1.2.2.2 p (.tail _ h) e) (List.pairwise_singleton _ _)
  exact Rb
 clear hk hns hcel hf1 hn1
 have hsD2 : ∀ p ∈ (F.L, oL1) :: F.c.saved, p.1 ≠ D := fun p hp => by
  cases hp with
  | head _ => exact hDL
  | tail _ hp => exact hsD p hp
 have loop := zhw (HH := H.cel (C + 1)) (elt := elt) (target := target) (iter := iter) (pos := pos) (RR := RR (.ref D) C) hifs Kmono Klen (fun J => hHD) hsD2 hlimD (fun o E => (Kt C _ _ hFr (zfu ok hdL1 hkind hdbg o E)).2) le st
  (fun s' B' l' items kk ov le' R' r' tr => zl1 (HH := H.cel (C + 1)) (l := l) (H := H) (fun J => hHD) (fun J => subC hFr.c) hsD2 hlimD R' r' (fun p hp => (R.sv p hp).2.2.2) (fun B2 le2 => ⟨mL1, ⟨esL1, epL1, hdL1, hkL1⟩, (hlL1.tr tr).mono le2⟩) fun B2 oC le2 R6 hC6 hne r5 => hRR D C oC s' B2 (le'.trans le2) R6 hC6 hne r5) R3 r0
 refine codeAny_compStart_list loop ?_
 exact (Kt C _ _ hFr (zfu ok hdL1 hkind hdbg (zb2 i0 k0) F.E)).1 _ B0 B _ a (zdt scope) (H.cel (C + 1) none) _ R3 st loop
theorem zjv (ok : Ok F n) {elt target iter : Expr} {ifs : List Expr} {scope : Scope} {pos : Pos} {Q : V -> Loc -> Hp -> Prop} (x0 : Str) (cl : List (Str × Addr)) (hifs : ifs = [] ∨ ∃ c, ifs = [c])
  (hclos : closureFor scope F.env = pure cl) (hone : scope.names.filter (·.2 == .cell) = [(x0, .cell)]) (hkind : scope.kind = .function) (hdbg : (relabel scope F.env).names.lookup ("__debug__" : Str) = none) (hnames : ∀ y ∈ scope.names, y.2 = .local -> scope.names.lookup y.1 = some .local)
  (h : WIt F iter loc H fun St l H1 => ∃ xs f, zph F n target elt ifs scope x0 cl St xs f H1 ∧ Q (.list (xs.filterMap f)) l H1)
  (hs : ∀ x, foldedSetIterable iter F.env x = pure x := by intro _; rfl) : WE F (.ListComp elt [⟨target, iter, ifs, 0⟩] scope pos) loc H Q := fun B s R => by
 show wpAny F.M F.A (eval (.ListComp elt [⟨target, iter, ifs, 0⟩] scope pos) F.env) _ _ _
 rw [eval_ListComp]
 refine wpAny_comprehension_free (use := none) rfl hs hclos hkind hnames (wpAny_mono (h B s R) (fun xv s₁ h₁ => wpAny_mono h₁ (fun it s₂ h₂ => ?_) fun J J e => e) fun J J e => e)
 obtain ⟨B', a, l, H', St, rfl, le, R', st, xs, f, K, q⟩ := h₂
 refine zm5 ok hifs hone hkind hdbg K R' le st (RR := fun acc C => compPost F.M F.A F.E none (Post F RelV B Q) acc C) fun D C oC s' B2 le2 R2 ⟨m, hn⟩ hC r => ?_
 exact ⟨m, hn, fun h' hs' => ⟨B2, _, l, H', le2, r, (R2.unsave (s' := { s' with heap := h' }) hC (fun b o hb e => hs'.extBut b o hb e) rfl rfl : Rel (F.c.sv F.c.saved) F.L F.nm B2 l H' _), q⟩⟩
end
noncomputable def zpi (cl0 : List (Str × Addr)) : List (Str × NameKind) -> List (Str × Addr) -> Option (List (Str × Addr))
 | [], acc => some acc
 | (x, k) :: r, acc => if k == .free then match cl0.lookup x with | some a => zpi cl0 r ((x, a) :: acc) | none => none else zpi cl0 r acc
theorem zds {F : Fx} {nm : List (Str × NameKind)} {cl0 cl : List (Str × Addr)} {scope : Scope} (hF : zah F nm cl0) (h : zpi cl0 scope.names [] = some cl) : closureFor scope F.env = pure cl := by
 have key : ∀ (names : List (Str × NameKind)) (acc cl : List (Str × Addr)), zpi cl0 names acc = some cl →
   (forIn names acc fun (x : Str × NameKind) (cs : List (Str × Addr)) => (do if x.2 == .free then let a ← cellOf F.env x.1; pure (ForInStep.yield ((x.1, a) :: cs)) else pure (ForInStep.yield cs) : Sem (ForInStep (List (Str × Addr))))) = (pure cl : Sem (List (Str × Addr))) := by
  intro names
  induction names with
  | nil => intro acc cl h; cases h; rfl
  | cons p r ih =>
   obtain ⟨x, k⟩ := p
   intro acc cl h
   unfold zpi at h
   rw [List.forIn_cons]
   dsimp only
   split at h
   ·rename_i hk
    rw [if_pos hk]
    split at h
    ·rename_i a ha
     have e : cellOf F.env x = pure a := by unfold cellOf; rw [hF.2, ha]
     rw [e, pure_bind, pure_bind]
     exact ih _ _ h
    ·cases h
   ·rename_i hk
    rw [if_neg hk, pure_bind]
    exact ih _ _ h
 unfold closureFor
 have := key scope.names [] cl h
 refine Eq.trans ?_ ((congrArg (· >>= fun cs => pure cs) this).trans (pure_bind _ _))
 refine congrArg (· >>= fun cs => pure cs) ?_
 refine congrArg (forIn scope.names []) ?_
 funext x cs
 obtain ⟨x, k⟩ := x
 rfl
section
variable {F : Fx} {n : Nat} {loc : Loc} {H : Hp}
theorem zgc {a : Addr} {xs : List V} {Q : V -> Loc -> Hp -> Prop} (hf : H.Fresh a) (q : Q (.list xs) loc H) : ∃ X' H', Frz (.ref a) (H.aL a xs) X' H' ∧ Q X' loc H' :=
 ⟨_, _, Frz.list (zac _ _ _), by rw [uaL hf.l]; exact q⟩
theorem zdp {es : List Expr} {pos : Pos} {Q : V -> Loc -> Hp -> Prop} (h : WEs F pos es loc H fun Xs l1 H1 => Xs.length ≤ 1000000 ∧ Q (.list Xs) l1 H1) : WE F (.List es pos) loc H Q :=
 zlx (za9 fun B s R => (h B s R).mono fun Xs l1 H1 q => ⟨q.1, fun a ha => zgc ha q.2⟩)
theorem zhp (ok : Ok F n) {nm : List (Str × NameKind)} {cl : List (Str × Addr)} (hF : zah F nm cl) {x0 : Str} {p : Pos} {i : Nat} {ca : Addr} {elt c : Expr} {l : Loc} {ov : Option V} {x : V} {out : Option V} (hx : look nm x0 = some (i, .cell)) (hc : cl.lookup x0 = some ca)
  (h : WB F c l (H.cel ca (some x)) fun b l2 H2 => H2 = H.cel ca (some x) ∧ (b = true -> WE F elt l2 H2 fun Y J H3 => H3 = H.cel ca (some x) ∧ out = some Y) ∧ (b = false -> out = none)) : zfl F (.Name x0 p) elt [c] l H ca ov x out := by
 have e : (((H.cel ca ov).aC ca (some x)) : Hp) = H.cel ca (some x) := aaC
 refine zfv ok hF hx hc (zac _ _ _) ⟨some x, e, ?_⟩
 rw [e]
 exact h
noncomputable def unS : V -> Str
 | .str s => s
 | _ => ⟨#[]⟩
theorem ziy (l : List Str) : (l.map V.str).map unS = l := by
 rw [List.map_map]
 exact (List.map_congr_left fun J J => rfl).trans (List.map_id _)
theorem zu6 {nm : List (Str × NameKind)} {cl : List (Str × Addr)} (hF : zah F nm cl) {x : Str} {i : Nat} {k : NameKind} (hx : look nm x = some (i, k)) : F.env.kindOf x = some k := by
 show F.env.scope.names.lookup x = some k
 rw [hF.1]; exact (zbw hx).2
end
noncomputable def leS (x y : Str) : Prop := ¬ (y.cps.toList < x.cps.toList)
theorem zt2 {x y : Str} (h : (!Spec.ltCps y.cps.toList x.cps.toList) = true) : leS x y := by
 unfold leS
 rw [ltCps_eq] at h
 simpa using h
theorem zoe {x y z : Str} (h : leS x y) (k : leS y z) : leS x z := by
 unfold leS at *
 exact fun c => (List.le_trans (α := Nat) (l₁ := x.cps.toList) (l₂ := y.cps.toList) (l₃ := z.cps.toList) h k) c
theorem zjw {x y : Str} (h : leS x y) (k : leS y x) : x = y := by
 have e : x.cps.toList = y.cps.toList := List.le_antisymm (α := Nat) h k
 have e2 : x.cps = y.cps := Array.toList_inj.mp e
 cases x; cases y; simpa using e2
theorem zg8 : ∀ {l : List Str} {p : Str}, risingS p l = true -> (p :: l).Pairwise leS
 | [], p, _ => List.pairwise_singleton _ _
 | x :: r, p, h => by
  unfold risingS at h
  rw [Bool.and_eq_true] at h
  have h1 := zt2 h.1
  have h2 := zg8 h.2
  refine List.pairwise_cons.mpr ⟨fun y hy => ?_, h2⟩
  rcases List.mem_cons.mp hy with rfl | hy
  ·exact h1
  ·exact zoe h1 ((List.pairwise_cons.mp h2).1 y hy)
theorem zg9 : ∀ {l : List Str}, sortedS l = true -> l.Pairwise leS
 | [], _ => .nil
 | x :: r, h => zg8 h
theorem ziz {l m : List Str} (hp : l.Perm m) (hl : sortedS l = true) (hm : sortedS m = true) : l = m :=
 hp.eq_of_pairwise (le := leS) (fun a b J J h k => zjw h k) (zg9 hl) (zg9 hm)
theorem zez : ∀ {l m : List Str}, l.Nodup -> m.Nodup -> (∀ x, x ∈ l ↔ x ∈ m) -> l.Perm m := fun hl hm h => (List.perm_ext_iff_of_nodup hl hm).mpr h
section
variable {F : Fx} {n : Nat} {loc : Loc} {H : Hp}
theorem zjx (ss : List Str) : (V.list (ss.map .str)).isD 20 = true := by
 show ((ss.map V.str).all (V.isD 19)) = true
 rw [List.all_map, List.all_eq_true]
 intro x _; rfl
theorem zjy {x : Str} {np pos : Pos} {e : Expr} {Q : V -> Loc -> Hp -> Prop} (ok : Ok F n)
  (h : WE F (.Name x np) loc H fun f l1 H1 => f = .raw (.type "list") ∧ WE F e l1 H1 fun X l2 H2 => ∃ xs, (asL H2 X = some xs ∨ X = .tup xs) ∧ xs.length ≤ 1000000 ∧ Q (.list xs) l2 H2)
  (hns : (backTo pos (starEach [e] F.env)).any (·.1) = false := by rfl) (he : starEach (e :: []) F.env = (false, eval e F.env) :: starEach [] F.env := by rfl) : WE F (.Call (.Name x np) [e] [] pos) loc H Q :=
 zlx (zav (h.mono fun f l1 H1 ⟨hf, hx⟩ => hf ▸ zag (hx.mono fun X l2 H2 ⟨xs, ex, hz, q⟩ => zaf ⟨zdc (fun a h => by cases h), zn6 ex hz fun a ha => zgc ha q⟩) he) hns)
theorem zd5 (ok : Ok F n) {ss tt : List Str} {Q : Bool -> Loc -> Hp -> Prop} (hs : sortedS ss = true) (ht : sortedS tt = true) (hp : ss.Perm tt) (q : Q false loc H) : Cmp F .NotEq (.list (ss.map .str)) (.list (tt.map .str)) loc H Q := by
 refine zq6 ok (zjx _) (zjx _) ?_
 rw [ziz hp hs ht]
 show Q (!eqV (.list (tt.map .str)) (.list (tt.map .str))) loc H
 rw [zes.mpr rfl]; exact q
structure zb3 (H : Hp) (c : Addr) (ov : Option V) : Prop where
 C : H.C c = some ov
 L : H.L c = none
 D : H.D c = none
 P : H.P c = none
 S : H.S c = none
theorem zb3.ext {H H' : Hp} {c : Addr} {ov : Option V} {ft : Addr -> Prop} (h : zb3 H c ov) (e : Ext ft H H') (hn : ¬ ft c) : zb3 H' c ov := by
 obtain ⟨e1, e2, e3, e4, e5, e6, e7⟩ := (e c (by unfold Hp.Own; rw [h.C]; simp)).2 hn
 exact ⟨e6.trans h.C, e1.trans h.L, e2.trans h.D, e3.trans h.P, e4.trans h.S⟩
theorem zof {cg cr : Addr} {H : Hp} {g : GA} {t : GT} (gr : GrOk cg cr H g t) {a : Addr} (hL : H.L a = none) (hD : H.D a = none) (hP : H.P a = none) (hS : H.S a = none) : ¬ foot g t a := by
 rintro (h | h | rfl | rfl)
 ·exact gr.ownD h hD
 ·exact gr.ownL h hL
 ·have := gr.pm; rw [hP] at this; cases this
 ·have := gr.ups; rw [hS] at this; cases this
theorem zb3.foot {cg cr : Addr} {H : Hp} {g : GA} {t : GT} {c : Addr} {ov : Option V} (h : zb3 H c ov) (gr : GrOk cg cr H g t) : ¬ Lay.foot g t c := zof gr h.L h.D h.P h.S
theorem Hp.Fresh.foot {cg cr : Addr} {H : Hp} {g : GA} {t : GT} {a : Addr} (h : H.Fresh a) (gr : GrOk cg cr H g t) : ¬ Lay.foot g t a := zof gr h.l h.d h.p h.s
theorem zl7 {α : Type} : ∀ {kvs : List (Str × α)} {k : Str} {v : α}, (kvs.map (·.1)).Nodup -> (k, v) ∈ kvs -> dget kvs k = some v
 | (k', v') :: r, k, v, hn, h => by
  unfold dget
  rw [List.find?_cons]
  rw [List.map_cons, List.nodup_cons] at hn
  rcases List.mem_cons.mp h with h | h
  ·cases h; simp
  ·have hne : ¬ k' = k := fun e => hn.1 (List.mem_map.mpr ⟨_, h, e.symm⟩)
   simp only [hne, decide_false]
   exact zl7 hn.2 h
end
noncomputable abbrev noHp : Hp := ⟨fun J => none, fun J => none, fun J => none, fun J => none, fun J => none, fun J => none, fun J => none⟩
theorem zl8 {P : Params} {h : Heap} {B : Keep} : ∀ {vs : List Value} {ns : List Int}, WellAll P h vs (ofPys (ns.map PyData.int)) -> zad B vs (ns.map .int)
 | _, [], w => by cases w; exact .nil
 | _, n :: ns, w => by
  cases w with
  | cons a r =>
   cases a
   exact .cons (.int _ _) (zl8 r)
structure Bk (M : Loc -> Hp -> Prop) (Q Q' : Fl -> Loc -> Hp -> Prop) : Prop where
 n : ∀ {l H}, M l H -> Q' .next l H
 c : ∀ {l H}, Q .cont l H -> Q' .cont l H
 b : ∀ {l H}, Q .brk l H -> Q' .brk l H
 r : ∀ {x l H}, Q (.ret x) l H -> Q' (.ret x) l H
structure Bt (M : Loc -> Hp -> Prop) (Q Q' : Fl -> Loc -> Hp -> Prop) : Prop where
 n : ∀ {l H}, M l H -> Q' .next l H
 c : ∀ {l H}, M l H -> Q' .cont l H
 b : ∀ {l H}, Q .next l H -> Q' .brk l H
 r : ∀ {x l H}, Q (.ret x) l H -> Q' (.ret x) l H
section
variable {F : Fx} {loc : Loc} {H : Hp}
theorem za0 {st : Stmt} {rest : List Stmt} {Q : Fl -> Loc -> Hp -> Prop} (M : Loc -> Hp -> Prop) (h : ∀ Q', Bk M Q Q' -> WS F st loc H Q') (k : ∀ l H, M l H -> WSs F rest l H Q) : WSs F (st :: rest) loc H Q :=
 zsb M (h (fun f l1 H1 => match f with | .next => M l1 H1 | f => Q f l1 H1) ⟨fun x => x, fun x => x, fun x => x, fun x => x⟩) k
theorem za3 {target : Expr} {body orelse : List Stmt} {Q : Fl -> Loc -> Hp -> Prop} {St : Nat -> ItS} (hm : ∀ i, zdi (St i)) (N : Nat) (Inv : Nat -> Loc -> Hp -> Prop) (h0 : Inv 0 loc H)
  (hs : ∀ i Q', Bt (Inv (i + 1)) Q Q' -> ∀ l H, i < N -> Inv i l H -> ∃ X, Nxt F target (St i) H (some (X, St (i + 1))) ∧ WA F.inl target X l H fun l1 H1 => WSs F.inl body l1 H1 Q')
  (he : ∀ l H, Inv N l H -> Nxt F target (St N) H none ∧ WSs F.inl orelse l H Q) : zqz F target body orelse Q St loc H :=
 ⟨hm, N, Inv, h0, fun i l H hi x => hs i (zpd (Inv (i + 1)) Q) ⟨fun x => x, fun x => x, fun x => x, fun x => x⟩ l H hi x, he⟩
theorem zjz {test : Expr} {body orelse : List Stmt} {pos : Pos} {Q : Fl -> Loc -> Hp -> Prop} (Inv : Nat -> Loc -> Hp -> Prop) (k : Nat) (h0 : Inv k loc H)
  (h : ∀ k Q', Bt (fun l H => ∃ k', k' < k ∧ Inv k' l H) Q Q' -> ∀ l H, Inv k l H -> WB F.inl test l H fun b l1 H1 => (b = true -> WSs F.inl body l1 H1 Q') ∧ (b = false -> WSs F.inl orelse l1 H1 Q)) :
  WS F (.While test body orelse pos) loc H Q :=
 zly Inv k h0 fun k l H x => h k (zpd (fun l H => ∃ k', k' < k ∧ Inv k' l H) Q) ⟨fun x => x, fun x => x, fun x => x, fun x => x⟩ l H x
end
section
variable {B : Keep} {vs : List Value} {M : List Value -> Prop}
theorem zad.e0 (r : zad B vs []) (h : M []) : M vs := by obtain rfl := r.eI; exact h
theorem zad.ec {X : V} {Xs : List V} (r : zad B vs (X :: Xs)) (h : ∀ v ws, RelV B v X -> zad B ws Xs -> M (v :: ws)) : M vs := by
 cases r with | cons a r => exact h _ _ a r
theorem zad.e1 {X : V} (r : zad B vs [X]) (h : ∀ v, RelV B v X -> M [v]) : M vs := r.ec fun J J a r => r.e0 (M := fun l => M (_ :: l)) (h _ a)
theorem zad.e2 {X Y : V} (r : zad B vs [X, Y]) (h : ∀ v w, RelV B v X -> RelV B w Y -> M [v, w]) : M vs := r.ec fun J J a r => r.e1 (M := fun l => M (_ :: l)) fun J b => h _ _ a b
theorem zad.e3 {X Y Z : V} (r : zad B vs [X, Y, Z]) (h : ∀ v w u, RelV B v X -> RelV B w Y -> RelV B u Z -> M [v, w, u]) : M vs := r.ec fun J J a r => r.e2 (M := fun l => M (_ :: l)) fun J J b c => h _ _ _ a b c
theorem zad.e9 {X1 X2 X3 X4 X5 X6 X7 X8 X9 : V} (r : zad B vs [X1, X2, X3, X4, X5, X6, X7, X8, X9]) (h : ∀ a b c d e f g i j, zad B [a, b, c, d, e, f, g, i, j] [X1, X2, X3, X4, X5, X6, X7, X8, X9] -> M [a, b, c, d, e, f, g, i, j]) : M vs :=
 r.ec (M := fun l => M (l)) fun a J ra r => r.ec (M := fun l => M (a :: l)) fun b J rb r => r.ec (M := fun l => M (a :: b :: l)) fun c J rc r => r.ec (M := fun l => M (a :: b :: c :: l)) fun d J rd r => r.ec (M := fun l => M (a :: b :: c :: d :: l)) fun e J re r => r.ec (M := fun l => M (a :: b :: c :: d :: e :: l)) fun f J rf r => r.ec (M := fun l => M (a :: b :: c :: d :: e :: f :: l)) fun g J rg r => r.ec (M := fun l => M (a :: b :: c :: d :: e :: f :: g :: l)) fun i J ri r => r.ec (M := fun l => M (a :: b :: c :: d :: e :: f :: g :: i :: l)) fun j J rj r => r.e0 (M := fun l => M (a :: b :: c :: d :: e :: f :: g :: i :: j :: l)) (h _ _ _ _ _ _ _ _ _ (.cons ra (.cons rb (.cons rc (.cons rd (.cons re (.cons rf (.cons rg (.cons ri (.cons rj .nil))))))))))
end
theorem zsd {t : Tab} : (kys t).length = t.length := by simp [kys]
theorem zk4 {t : Tab} {m n : Nat} (h : (kys t).length ≤ m) (hm : m ≤ n := by decide) : (tof t).length ≤ n := by rw [tof, List.length_map, ← zsd]; exact Nat.le_trans h hm
theorem zeh {α : Type} {l : List α} {i : Nat} (h : l.Nodup) (hi : i < l.length) : l[i] ∉ l.take i := by
 intro hm
 obtain ⟨j, hj, e⟩ := List.mem_take_iff_getElem.mp hm
 have e := (List.getElem_inj h).mp e
 exact Nat.ne_of_lt (Nat.lt_of_lt_of_le hj (Nat.min_le_left _ _)) e
theorem zao {α : Type} {l : List α} {i : Nat} (hi : i < l.length) : l.take (i + 1) = l.take i ++ [l[i]] := by rw [List.take_add_one, List.getElem?_eq_getElem hi]; rfl
theorem za1 {α β : Type} {f : α -> β} {xs : List α} {m n : Nat} (h : xs.length ≤ m) (hm : m ≤ n := by decide) : (xs.map f).length ≤ n := by rw [List.length_map]; exact Nat.le_trans h hm
section
variable {F : Fx} {n : Nat} {loc : Loc} {H : Hp}
theorem zt3 {i j : Int} {Q : V -> Loc -> Hp -> Prop} (hi : Builtin.Int.intBits i ≤ 64) (q : Q (.int (i * j)) loc H) : Op2 F (binaryOp .Mult) (.int i) (.int j) loc H Q := fun B s a b R ra rb => by
 obtain ⟨_, rfl⟩ := ra.iI; obtain ⟨_, rfl⟩ := rb.iI
 refine PySem.AutoIntOps.mul_0 ?_ (IntMulOk.of_left hi)
 exact Post.pure (.int _ _) (R.tok _) q
theorem zrc {i : Int} {k : Nat} {Q : V -> Loc -> Hp -> Prop} (h1 : (i == 0 || i == 1) = false) (h2 : (i == -1) = false) (h3 : Builtin.Int.intTooBig (((Builtin.Int.intBits i : Nat) : Int) * (k : Int)) = false) (q : Q (.int (i ^ k)) loc H) : Op2 F (binaryOp .Pow) (.int i) (.int k) loc H Q := fun B s a b R ra rb => by
 obtain ⟨_, rfl⟩ := ra.iI; obtain ⟨_, rfl⟩ := rb.iI
 cases k with
 | zero =>
  refine PySem.AutoIntOps.pow_0 (by decide) (by decide) ?_
  exact Post.pure (.int _ _) (R.tok _) (by simpa using q)
 | succ k =>
  refine PySem.AutoIntOps.pow_4 (by lia) (by simp; lia) (by rw [h1]; decide) (by rw [h2]; decide) (by rw [h3]; decide) ?_
  exact Post.pure (.int _ _) (R.tok _) (by simpa using q)
theorem zj0 {B : Keep} : ∀ {vs : List Value} {ns : List Int}, zad B vs (ns.map .int) -> ∃ xs : List (Int × Tok), vs = xs.map (fun p => .int p.1 p.2) ∧ xs.map (·.1) = ns
 | _, [], r => by cases r; exact ⟨[], rfl, rfl⟩
 | _, n :: ns, r => by
  cases r with | cons a r => ?_
  cases a with | int i t => ?_
  obtain ⟨xs, h1, h2⟩ := zj0 r
  exact ⟨(n, t) :: xs, by rw [h1]; rfl, by rw [← h2]; rfl⟩
theorem zp4 {X : V} {ns : List Int} {Q : V -> Loc -> Hp -> Prop} (hh : F.A.handled = none) (e : asL H X = some (ns.map .int)) (q : Q (.int ns.sum) loc H) : Call F (.raw (.builtin "sum")) [X] loc H Q := fun B s v vs R rv rvs => by
 obtain rfl := rv.wI
 obtain ⟨_, rfl, ra⟩ := rvs.c1
 obtain ⟨l, items, m, rfl, hl, hr⟩ := zcb R ra e
 obtain ⟨xs, h1, h2⟩ := zj0 hr
 have hi : items = intItems xs.toArray := by
  apply Array.toList_inj.mp
  rw [h1]; unfold intItems; simp
 subst hi
 refine sum_intListG hh hl.isList fun h' tk t' hk => ?_
 have hs : preSum (numAt xs.toArray) xs.toArray.size = ns.sum := by
  rw [preSum_eq, List.take_of_length_le (by simp)]
  have : numsOf (intItems xs.toArray).toList = ns := by rw [nums_intItems]; simpa using h2
  rw [← h2]
 rw [hs]
 exact Post.pure (.int _ _) (R.grow (s' := { s with heap := h', toks := tk }) hk rfl rfl) q
theorem zse {xs : List V} {Q : Bool -> Loc -> Hp -> Prop} (hz : xs.length ≤ 1000) (q : Q (!xs.isEmpty) loc H) : Tru F (.tup xs) loc H Q := fun B s a R ra => by
 obtain ⟨a, items, m, rfl, hb, hr⟩ := ra.tI
 have hlen := hr.length
 rw [Array.length_toList] at hlen
 have hi : (!items.isEmpty) = (!xs.isEmpty) := by
  cases xs with
  | nil => simp at hlen; simp [hlen]
  | cons x xs =>
   have : items.size ≠ 0 := by rw [hlen]; simp
   simp [Array.isEmpty, this]
 refine PySem.W.ktl_truthy (R.keep _ _ hb) (by rw [hlen]; lia) ?_
 rw [hi]; exact Post.pure rfl (R.tok _) q
theorem zsf {x : Str} {Q : Bool -> Loc -> Hp -> Prop} (hz : x.length ≤ 1000000) (q : Q (decide (x.length ≠ 0)) loc H) : Tru F (.str x) loc H Q := fun B s a R ra => by
 obtain ⟨_, rfl, _⟩ := ra.sI
 refine PySem.P.truthy_str (by lia) ?_
 have : ((x.length : Int) != 0) = decide (x.length ≠ 0) := by
  rw [Bool.eq_iff_iff]; simp
 rw [this]; exact Post.pure rfl (R.tok _) q
theorem zk5 {l m r : Expr} {o1 o2 : CmpOp} {pos : Pos} {Q : Bool -> Loc -> Hp -> Prop} (h : WE F l loc H fun X l1 H1 => WE F m l1 H1 fun Y l2 H2 => Cmp F o1 X Y l2 H2 fun b l3 H3 => (b = true -> WE F r l3 H3 fun Z l4 H4 => Cmp F o2 Y Z l4 H4 Q) ∧ (b = false -> Q false l3 H3))
  (hm : markedEach [o1, o2] [m, r] (evalEach [m, r] F.env) = [eval m F.env, eval r F.env] := by rfl) : WB F (.Compare l [o1, o2] [m, r] pos) loc H Q := fun B s R => by
 show wpAny F.M F.A (isTrue (.Compare l [o1, o2] [m, r] pos) F.env _) _ _ _
 rw [arm_isTrue_Compare, hm]
 refine wpAny_bind ((h B s R).then fun a B1 X l1 H1 s1 le1 ra R1 h1 => ?_)
 refine wpAny_bind (wpAny_holding ((h1 B1 s1 R1).then fun b B2 Y l2 H2 s2 le2 rb R2 h2 => wpAny_bind (wpAny_standAt (wpAny_bind (wpAny_holding ?_)))))
 refine (h2 B2 s2 a b R2 (ra.mono le2) rb).then fun v B3 t l3 H3 s3 le3 e R3 q => wpAny_bind (zdl (wpAny_bind (wpAny_holding ?_)))
 subst e
 refine wpAny_truthy_bool ?_
 cases t with
 | false => exact wpAny_pure ((Post.pure rfl R3 (q.2 rfl)).lift (le1.trans (le2.trans le3)))
 | true =>
  show wpAny F.M F.A (testChain pos b [o2] [eval r F.env]) _ _ _
  refine wpAny_bind (wpAny_holding ((q.1 rfl B3 s3 R3).then fun c B4 Z l4 H4 s4 le4 rc R4 h4 => wpAny_bind (wpAny_standAt (wpAny_bind (wpAny_operating ?_)))))
  refine (h4 B4 s4 b c R4 ((rb.mono le3).mono le4) rc).then fun v B5 t l5 H5 s5 le5 e R5 q => ?_
  subst e
  exact wpAny_holding (wpAny_truthy_bool ((Post.pure rfl R5 q).lift (le1.trans (le2.trans (le3.trans (le4.trans le5))))))
theorem zog {test : Expr} {msg : Option Expr} {pos : Pos} {Q : Fl -> Loc -> Hp -> Prop} (h : WB F test loc H fun b l1 H1 => b = true ∧ Q .next l1 H1) : WS F (.Assert test msg pos) loc H Q := fun B s R =>
 wpAny_Assert_holds ((h B s R).then fun a B1 b l1 H1 s1 le1 ra R1 q => by subst ra; exact ⟨q.1, (Post.pure .next R1 q.2).lift le1⟩)
theorem zi0 {B : Keep} {s : Shared} (R : FRel F B loc H s) {a : Addr} {S : (Str -> Bool) × Nat} (e : H.S a = some S) : s.heap.SetOf (PySem.strKind F.c.prog F.c.w) a S.1 S.2 := (R.own a).s S e
theorem zk6 {k : Str} {a : Addr} {S : (Str -> Bool) × Nat} {Q : Bool -> Loc -> Hp -> Prop} (e : H.S a = some S) (q : Q (S.1 k) loc H) : Cmp F .In (.str k) (.ref a) loc H Q := fun B s v u R rv ru => by
 obtain ⟨_, rfl, _⟩ := rv.sI; obtain rfl := ru.rI
 exact wpAny_inSet_of (za5 _ _) rfl (zi0 R e) (Post.pure rfl (R.tok _) q)
theorem zm6 {k : Str} {a : Addr} {S : (Str -> Bool) × Nat} {Q : Bool -> Loc -> Hp -> Prop} (e : H.S a = some S) (q : Q (!S.1 k) loc H) : Cmp F .NotIn (.str k) (.ref a) loc H Q := fun B s v u R rv ru => by
 obtain ⟨_, rfl, _⟩ := rv.sI; obtain rfl := ru.rI
 exact wpAny_notInSet_of (za5 _ _) rfl (zi0 R e) (Post.pure rfl (R.tok _) q)
theorem zl9 {a : Addr} {S : (Str -> Bool) × Nat} {Q : V -> List V -> Loc -> Hp -> Prop} (e : H.S a = some S) (q : Q (.raw (.builtin "set.add")) [.ref a] loc H) : MGet F "add" (.ref a) loc H Q :=
 zgt PySem.F.plainAttrs_set PySem.F.slot_set_add PySem.F.type_set_add (fun B s v R r => by
  obtain rfl := r.rI
  have hS := zi0 R e
  exact ⟨hS.typeIs, hS.noDict⟩) q
noncomputable def addS (S : (Str -> Bool) × Nat) (k : Str) : (Str -> Bool) × Nat := (fun x => S.1 x || decide (x = k), if S.1 k then S.2 else S.2 + 1)
theorem zma {a : Addr} {k : Str} {S : (Str -> Bool) × Nat} {Q : V -> Loc -> Hp -> Prop} (e : H.S a = some S) (eG : H.G a = none) (hz : S.2 ≤ 4000) (q : Q .none loc (H.aS a (addS S k))) : Call F (.raw (.builtin "set.add")) [.ref a, .str k] loc H Q := fun B s v vs R rv rvs => by
 obtain rfl := rv.wI
 obtain ⟨_, _, rfl, ra, r2⟩ := rvs.cI
 obtain ⟨_, _, rfl, rb, r3⟩ := r2.cI
 obtain rfl := r3.eI; obtain rfl := ra.rI; obtain ⟨_, rfl, _⟩ := rb.sI
 refine call_set_add (za5 _ _) rfl (zi0 R e) (by unfold scanBound; lia) fun h' hsb hS' => ?_
 exact Post.pure .none (R.setS (s' := { s with heap := h', toks := s.toks + 1 }) (S' := addS S k) e eG (fun b o hb z => (hsb.2 b hb).trans z) hS' rfl rfl) q
end
section
variable {F : Fx} {n : Nat} {loc : Loc} {H : Hp}
theorem zrd {x : Expr} {i : Int} {pos : Pos} {Q : V -> Loc -> Hp -> Prop} (h : WE F x loc H fun X l1 H1 => X = .int i ∧ Q (.int (-i)) l1 H1) : WE F (.UnaryOp .USub x pos) loc H Q := fun B s R =>
 UnaryOp_ ((h B s R).then fun a B1 X l1 H1 s1 le1 ra R1 ⟨hX, q⟩ => by
  subst hX
  obtain ⟨_, rfl⟩ := ra.iI
  exact PySem.P.neg_int ((Post.pure (.int _ _) (R1.tok _) q).lift le1))
theorem Ok.in1 (ok : Ok F (n + 1)) : Ok { F with A := F.A.in1 } n :=
 ⟨ok.fn, ok.glob, ok.bi, ok.dbg, by have := ok.units; show F.A.units + 1 + 40 * n + 200 < cLine; omega, by have := ok.depth; show F.A.depth + 4 * n + 4 < recursionLimit; omega, fun J => ok.handled (Nat.succ_ne_zero _), ok.fr⟩
theorem zp5 (ok : Ok F (n + 1)) {K : Frag} (hK : K.In F.c.base) {C fL : Addr} {fs : List (Str × V)} {Q : Bool -> Loc -> Hp -> Prop} (hb : findIn K (.ref C) "__bool__" = some none) (hl : findIn K (.ref C) "__len__" = some (some (.ref fL))) (hf : typeIn K (.ref fL) = some (.type "function"))
  (h : zco { F with A := F.A.in1 } fL [.inst C fs] [] [] loc H fun X l' H' => ∃ k : Nat, X = .int k ∧ k < 1000000 ∧ Q (decide (k ≠ 0)) l' H') : Tru F (.inst C fs) loc H Q := fun B s v R rv => by
 have rv' := rv
 obtain ⟨a, d, od, es, ep, rfl, h1, h2, h3, r⟩ := rv.oI
 have X : K.In s.heap := fun a o e => R.inBase (hK a o e)
 have ha := R.keep _ _ h1
 have special : ∀ {A : Around} {E : Value -> Shared -> Prop} {name : Str} {y : Option Value} {Q : Option Value -> Shared -> Prop}, findIn K (.ref C) name = some y -> Q y s -> wpAny F.M A (specialOf (.ref a) name) Q E s := by
  intro A E name y Q e q
  unfold specialOf
  exact wpAny_bind (wpAny_typeOf_ref ha ((looks_findIn X e).here q))
 unfold truthy
 refine wpAny_bind ?_
 unfold callSpecial?
 refine wpAny_bind (special hb (wpAny_pure ?_))
 refine wpAny_bind (special hl ?_)
 rw [if_neg (by simp)]
 refine wpAny_bind (wpAny_runValue (codeAny_builtin entry_len ?_))
 rw [Around.under_plainId plain_len _]
 unfold Builtin.«len»
 refine wpAny_bind (m := oneArg "len" _) (wpAny_pure ?_)
 refine wpAny_bind (m := callSpecial? (.ref a) (Str.ofString "__len__")) ?_
 unfold callSpecial?
 refine wpAny_bind (special hl ?_)
 refine wpAny_holding (wpAny_bind ((bind_fn X (.ref a) hf).here ?_))
 have hc := h B s [.ref a] [] (fun r s' => match r with | .ok (.ret v) => Post F RelV B (fun X l' H' => ∃ k : Nat, X = .int k ∧ k < 1000000 ∧ Q (decide (k ≠ 0)) l' H') v s' | .ok _ => False | .error e => F.E e s') R (.cons rv' .nil) .nil (fun v s' p => p)
 refine wpAny_bind (wpAny_mono (wpAny_call hc) (fun v s' p => ?_) fun J J x => x)
 refine wpAny_pure ?_
 obtain ⟨B', b, l', H', le, rb, R', k, rfl, hk, q⟩ := p
 obtain ⟨_, rfl⟩ := rb.iI
 refine wpAny_bind (wpAny_holding (wpAny_pure ?_))
 refine wpAny_bind (wpAny_letGo ?_)
 show wpAny _ _ (if (k : Int) < 0 then _ else _) _ _ _
 rw [if_neg (by omega)]
 show wpAny _ _ (if (k : Int) ≥ 2 ^ 63 then _ else _) _ _ _
 rw [if_neg (by omega)]
 refine wpAny_bind (wpAny_mkInt (wpAny_pure ?_))
 refine wpAny_pure ?_
 have e : ((k : Int) != 0) = decide (k ≠ 0) := by rw [Bool.eq_iff_iff]; simp
 rw [e]
 exact (Post.pure rfl (R'.tok _) q).lift le
end
section
variable {prog : Program} {w : World} {A : Around} {E : Value -> Shared -> Prop} {s : Shared}
theorem zh0 {α : Type} (f : Nat -> Bool) (m : Nat) : ∀ (xs : List α) (i : Nat), (∀ k, i ≤ k -> k < i + xs.length -> f k = decide (m ≤ k)) →
  (xs.zipIdx i).filterMap (fun p => if f p.2 = true then none else some p.1) = xs.take (m - i)
 | [], i, _ => by simp
 | x :: xs, i, h => by
  rw [List.zipIdx_cons, List.filterMap_cons]
  have h0 := h i (Nat.le_refl _) (by simp)
  have ih := zh0 f m xs (i + 1) (fun k h1 h2 => h k (Nat.le_of_succ_le h1) (by simp only [List.length_cons]; lia))
  by_cases e : m ≤ i
  ·simp only [h0, e, decide_true, if_true]
   rw [ih, show m - (i + 1) = 0 by lia, show m - i = 0 by lia]
   simp
  ·simp only [h0, e, decide_false, Bool.false_eq_true, if_false]
   rw [ih, show m - i = (m - (i + 1)) + 1 by lia, List.take_succ_cons]
theorem zj1 {l sl : Addr} {items : Array Value} {n k : Nat} {u : Tok} {Q : Unit -> Shared -> Prop} (hl : IsL s.heap l items n) (hs : s.heap.IsSliceOf sl (.int (-(k : Int)) u) .none .none) (h1 : 1 ≤ k) (hk : k ≤ items.size) (hsz : items.size ≤ 1000)
  (h : ∀ h' n', IsL h' l (items.toList.take (items.size - k)).toArray n' -> Heap.SameBut l s.heap h' -> Q () { s with heap := h' }) : wpAny (model prog w) A (delItem (.ref l) (.ref sl)) Q E s := by
 obtain ⟨os, hos, hcs, hds⟩ := id hs
 have hTs : s.TypeIs (.ref sl) "slice" := ⟨os, hos, hcs⟩
 have hT : s.TypeIs (.ref l) "list" := ⟨_, hl, rfl⟩
 refine wpAny_delItem_slot hT (by decide) PySem.F.slot_list_delitem (wpAny_call_entry PySem.F.slot_list_delitem hT PySem.F.entry_list_delitem ?_ (PySem.F.args_list_delitem_2 _ _))
 show wpAny _ _ (Builtin.List.listSubscript? (.ref sl) >>= _) _ _ s
 refine wpAny_bind ?_
 unfold Builtin.List.listSubscript?
 refine wpAny_bind (wpAny_specialOf hTs slice_no_index ?_)
 simp only [Option.isNone_none, if_true]
 refine wpAny_pure ?_
 show wpAny _ _ (typeOf (.ref sl) >>= _) _ _ s
 refine wpAny_bind (wpAny_typeOf hTs ?_)
 rw [if_neg (by decide)]
 rw [listSliceParts_eq]
 refine wpAny_bind (wpAny_bind (wpAny_field hos hds (x := .none) rfl (wpAny_bind (wpAny_listPart .none ?_))))
 rw [if_neg (show ¬ ((rawPart none == rawInt 0) = true) from Bool.false_ne_true)]
 refine wpAny_bind (wpAny_field hos hds (x := .int (-(k : Int)) u) rfl (wpAny_bind (wpAny_listPart (.int _ _) ?_)))
 refine wpAny_bind (wpAny_field hos hds (x := .none) rfl (wpAny_bind (wpAny_listPart .none (wpAny_pure ?_))))
 refine wpAny_bind (listItems_at hl rfl ?_)
 refine wpAny_bind (wpAny_of_eq (sliceIndices_raw (some (-(k : Int))) none none items.size (by simp)) ?_)
 have e : sliceBounds (some (-(k : Int))) none none items.size = (((items.size - k : Nat) : Int), (items.size : Int), 1) := by
  simp only [sliceBounds, Option.getD_none, show (1 : Int) > 0 by decide, if_true]
  rw [if_pos (by lia)]
  congr 1
  lia
 rw [e]
 refine wpAny_bind (wpAny_rule ?_)
 have hf : ∀ f : Nat -> Bool, (∀ j, f j = (if (1 : Int) > 0 then (decide (((items.size - k : Nat) : Int) ≤ (j : Int)) && decide ((j : Int) < (items.size : Int)) && (((j : Int) - ((items.size - k : Nat) : Int)) % 1 == 0)) else false)) →
   (items.toList.zipIdx.filterMap fun p => if f p.2 = true then none else some p.1) = items.toList.take (items.size - k) := by
  intro f hf
  rw [zh0 f (items.size - k) items.toList 0 (fun j J hj => ?_)]
  ·rfl
  ·rw [hf j, if_pos (by decide)]
   rw [Array.length_toList] at hj
   have h2 : decide ((j : Int) < (items.size : Int)) = true := decide_eq_true (by lia)
   have h3 : (((j : Int) - ((items.size - k : Nat) : Int)) % 1 == 0) = true := by simp
   rw [h2, h3, Bool.and_true, Bool.and_true]
   exact decide_eq_decide.mpr (by lia)
 refine wpAny_bind (listUpdate_at hl rfl ?_ (by rw [sizeLine_eq]; lia) ?_)
 ·refine wpAny_bind (wpAny_letGo ?_)
  refine wpAny_pure ⟨_, rfl, h _ (if ((items.toList.take (items.size - k)).toArray.size == items.size) = true then n else n + 1) ?_ (Heap.SameBut.update ..)⟩
  refine (IsL.update (n := n) hl _).trans ?_
  have := hf _ (fun j => rfl)
  exact congrArg (fun x : List Value => some (zb2 x.toArray (if (x.toArray.size == items.size) = true then n else n + 1))) this
 ·have := hf _ (fun j => rfl)
  refine Nat.le_trans (Nat.le_of_eq (congrArg (fun x : List Value => x.toArray.size) this)) ?_
  rw [List.size_toArray, List.length_take, sizeLine_eq, Array.length_toList]; lia
end
section
variable {F : Fx} {n : Nat} {loc : Loc} {H : Hp}
theorem zmb {B : Keep} {s : Shared} (R : FRel F B loc H s) {a : Addr} {xs : List V} (e : H.L a = some xs) : ∃ items m, IsL s.heap a items m ∧ zad B items.toList xs := (R.own a).l xs e
theorem zm7 {o lo : Expr} {sp p pos : Pos} {k : Nat} {Q : Fl -> Loc -> Hp -> Prop} (h1 : 1 ≤ k) (h : WE F o loc H fun O l1 H1 => ∃ a, O = .ref a ∧ WE F lo l1 H1 fun I l2 H2 => I = .int (-(k : Int)) ∧ ∃ xs, H2.L a = some xs ∧ k ≤ xs.length ∧ xs.length ≤ 1000 ∧ Q .next l2 (H2.aL a (xs.take (xs.length - k)))) :
  WS F (.Delete [.Subscript o (.Slice (some lo) none none sp) p] pos) loc H Q := fun B s R => by
 refine wpAny_Delete (wpAny_deleteEach_cons (wpAny_delete_Subscript ((h B s R).then fun ov B1 O l1 H1 s1 le1 ro R1 ⟨a, hO, h2⟩ => ?_)))
 subst hO
 obtain rfl := ro.rI
 refine wpAny_Slice ?_
 rw [evalPart_some]
 refine (h2 B1 s1 R1).then fun iv B2 I l2 H2 s2 le2 ri R2 ⟨hI, xs, e, hk, hz, q⟩ => ?_
 subst hI
 obtain ⟨t, rfl⟩ := ri.iI
 rw [evalPart_none]
 refine wpAny_pure (wpAny_pure ?_)
 obtain ⟨items, m, hl, hr⟩ := zmb R2 e
 have hlen := hr.length
 rw [Array.length_toList] at hlen
 have R3 : FRel F B2 l2 H2 { s2 with heap := s2.heap.push { cls := .type "slice", data := .fields #[.int (-(k : Int)) t, .none, .none] } } := R2.grow (fun b o e => Heap.get?_push_of_some _ e) rfl rfl
 refine zj1 (s := { s2 with heap := s2.heap.push { cls := .type "slice", data := .fields #[.int (-(k : Int)) t, .none, .none] } }) (IsL.push (n := m) hl _) (Heap.IsSliceOf.new ..) h1 (by rw [hlen]; exact hk) (by rw [hlen]; exact hz) fun h' n' hl' hs => ?_
 refine wpAny_deleteEach_nil ?_
 refine (Post.pure .next (R3.setL (s' := { s2 with heap := h' }) e (fun b o hb z => (hs.2 b hb).trans z) hl' ?_ rfl rfl) q).lift (le1.trans le2)
 rw [hlen]
 simpa using hr.take (xs.length - k)
theorem zk7 {M : Program} {w : World} {A : Around} {E : Value -> Shared -> Prop} {s : Shared} {l : Addr} {items : Array Value} {m : Nat} {k : Int} {t : Tok} {v : Value} {Q : Unit -> Shared -> Prop} (hl : IsL s.heap l items m) (h0 : 0 ≤ k) (hi : k < items.size) (hz : items.size ≤ 100000)
  (h : ∀ h', IsL h' l (items.setIfInBounds k.toNat v) m -> Heap.SameBut l s.heap h' -> Q () { s with heap := h' }) : wpAny (model M w) A (setItem (.ref l) (.int k t) v) Q E s := by
 have hT : s.TypeIs (.ref l) "list" := ⟨_, hl, rfl⟩
 have hfit : k < 2 ^ 63 := by lia
 clear hz
 unfold setItem
 try with_reducible refine wpAny_holding ?_
 refine wpAny_bind (wpAny_sequenceKey hT (by decide) ?_)
 refine wpAny_bind (wpAny_callSpecial?_slot (name := Str.ofString "__setitem__") hT slot_list_setitem
  (wpAny_call_entry slot_list_setitem hT entry_list_setitem ?_ (args_list_setitem _ _ _)))
 show wpAny _ _ (Builtin.List.listSubscript? (.int k t) >>= _) _ _ s
 refine wpAny_bind (wpAny_listSubscript_int (fitsIndex_of h0 hfit) ?_)
 clear hfit
 obtain ⟨j, rfl⟩ := Int.eq_ofNat_of_zero_le h0
 have hj : j < items.size := by lia
 have hx' : items[j]? = some items[j] := Array.getElem?_eq_getElem hj
 show wpAny _ _ ((seqItemAt l j >>= fun r => pure (r.map (j, ·))) >>= _) _ _ s
 refine wpAny_bind (wpAny_bind (wpAny_seqItemAt hl rfl (wpAny_pure ?_)))
 rw [hx']
 show wpAny _ _ (setSeqItemAt l j v >>= _) _ _ s
 refine wpAny_bind (wpAny_setSeqItemAt hl rfl ?_)
 refine wpAny_pure ⟨.none, rfl, wpAny_pure (h _ ?_ (Heap.SameBut.update ..))⟩
 have := IsL.update (n := m) hl (·.setIfInBounds j v)
 rwa [if_pos (by simp)] at this
theorem zp6 {a : Addr} {xs : List V} {i : Nat} {Z : V} {Q : Loc -> Hp -> Prop} (e : H.L a = some xs) (hi : i < xs.length) (hz : xs.length ≤ 100000) (q : Q loc (H.aL a (xs.set i Z))) : Set_ F (.ref a) (.int i) Z loc H Q := fun B s o j v R ro rj rv => by
 obtain rfl := ro.rI; obtain ⟨_, rfl⟩ := rj.iI
 obtain ⟨items, m, hl, hr⟩ := zmb R e
 have hlen := hr.length
 rw [Array.length_toList] at hlen
 refine zk7 hl (by lia) (by lia) (by lia) fun h' hl' hs => ?_
 exact Post.pure (b := ()) trivial (R.setL (s' := { s with heap := h' }) e (fun b o hb z => (hs.2 b hb).trans z) hl' (by rw [Array.toList_setIfInBounds]; exact hr.set i rv) rfl rfl) q
noncomputable def zpj (F : Fx) (f : V) (Xs : List V) (kws : List Str) (Ws : List V) (loc : Loc) (H : Hp) (Q : V -> Loc -> Hp -> Prop) : Prop :=
 ∀ B s v vs ws, FRel F B loc H s -> RelV B v f -> zad B vs Xs -> zad B ws Ws -> PW F (call v vs (kws.zip ws)) RelV B s Q
theorem zm8 {x k : Str} {np pos kp : Pos} {a kv : Expr} {args : List Expr} {Q : V -> Loc -> Hp -> Prop}
  (h : WE F (.Name x np) loc H fun f l1 H1 => ∃ g, f = .ref g ∧ WEs F pos (a :: args) l1 H1 fun Xs l2 H2 => WE F kv l2 H2 fun W l3 H3 => zc6 F f l3 H3 ∧ zpj F f Xs [k] [W] l3 H3 Q)
  (hs : starEach (a :: args) F.env = (false, eval a F.env) :: starEach args F.env := by rfl) (hns : (backTo pos (starEach (a :: args) F.env)).any (·.1) = false := by rfl) : WE F (.Call (.Name x np) (a :: args) [⟨some k, kv, kp⟩] pos) loc H Q := fun B s R =>
 wpAny_Call_ofName ((h B s R).then fun f B1 X l1 H1 s1 le1 rf R1 ⟨g, hg, h1⟩ => by
  subst hg
  obtain rfl := rf.rI
  unfold callWith
  have core : wpAny F.M F.A (evalArgs (.ref g) true (backTo pos (starEach (a :: args) F.env)) (backToKw pos (keywordEach [⟨some k, kv, kp⟩] F.env))) (fun a s₁ => (∃ kk, ∀ Q' : Keeper -> Shared -> Prop, Q' kk s₁ -> wpAny F.M F.A (keeperOf (.ref g)) Q' F.E s₁) ∧ wpAny F.M F.A (call (.ref g) ([] ++ a.pos) a.kw) (Post F RelV B Q) F.E s₁) F.E s1 := by
   refine evalArgs_kw2 (by rfl) ((h1 B1 s1 R1).then fun vs B2 Xs l2 H2 s2 le2 rv R2 h2 => ?_) hs
   refine kwAll_cons ((h2 B2 s2 R2).then fun wv B3 W l3 H3 s3 le3 rw R3 h3 => kwAll_nil ?_)
   exact ⟨h3.1 B3 s3 _ R3 (.ref _), (h3.2 B3 s3 _ vs [wv] R3 (.ref _) (rv.mono le3) (.cons rw .nil)).lift (le1.trans (le2.trans le3))⟩
  refine wpAny_bind (wpAny_holding (wpAny_mono core (fun x s₁ h₁ => wpAny_bind (wpAny_standAt ?_)) fun J J x => x))
  obtain ⟨⟨kk, hk⟩, hc⟩ := h₁
  have tail : ∀ {t : Sem Value}, wpAny F.M F.A t (Post F RelV B Q) F.E s₁ -> wpAny F.M F.A (t >>= fun r => holding [r] point >>= fun J => pure r) (Post F RelV B Q) F.E s₁ :=
   fun ht => wpAny_bind (wpAny_mono ht (fun r s₂ hr => wpAny_bind (wpAny_holding (wpAny_point (wpAny_pure hr)))) fun J J x => x)
  have hkw : (backToKw pos (keywordEach [⟨some k, kv, kp⟩] F.env)).any (·.1.isNone) = false := by rfl
  have hst : ((backTo pos (starEach (a :: args) F.env)).any (·.1) || (backToKw pos (keywordEach [⟨some k, kv, kp⟩] F.env)).any (·.1.isNone)) = false := by rw [hns, hkw]; rfl
  extract_lets starred pp
  have hst2 : starred = false := hst
  clear_value starred
  subst hst2
  refine wpAny_bind (m := keeperOf _) (hk _ ?_)
  cases kk
  ·dsimp only
   by_cases hz : (backTo pos (starEach (a :: args) F.env)).length + 2 * (backToKw pos (keywordEach [⟨some k, kv, kp⟩] F.env)).length > 30
   ·rw [if_pos hz]; exact tail hc
   ·rw [if_neg hz]; exact tail (Calls.wpAny_keep hc)
  ·dsimp only
   by_cases hz : (backTo pos (starEach (a :: args) F.env)).length + 2 * (backToKw pos (keywordEach [⟨some k, kv, kp⟩] F.env)).length > 30
   ·rw [if_pos hz]; exact tail hc
   ·rw [if_neg hz]; exact tail (Calls.wpAny_keep hc)
  ·exact tail hc
  ·exact tail (wpAny_operating hc))
theorem zoh (ok : Ok F (n + 1)) {K : Frag} (hK : K.In F.c.base) {C fI : Addr} {Xs Ws : List V} {kws : List Str} {Q : V -> Loc -> Hp -> Prop} (hm : makesIn K C = true) (hi : findIn K (.ref C) "__init__" = some (some (.ref fI))) (hf : typeIn K (.ref fI) = some (.type "function"))
  (h : ∀ A' x d, Ok { F with A := A' } n -> H.Fresh x -> H.Fresh d -> d < x -> zco { F with A := A' } fI (.ref x :: Xs) kws Ws loc ((H.aI x (C, d)).aD d []) fun X l H' => X = .none ∧ Q (.ref x) l H') : zpj F (.ref C) Xs kws Ws loc H Q := fun B s v vs ws R rv rvs rws => by
 obtain rfl := rv.rI
 obtain ⟨hh, g, dr, t, os⟩ := s
 have X : K.In hh := fun a o e => R.inBase (hK a o e)
 have Y : Makes F.M hh C := makes_of X hm
 refine wpAny_call (make_core (rest := vs) (kw := kws.zip ws) Y (looks_findIn X hi) (fun self => bind_fn X self hf) (.inl (by simp)) ?_)
 have R1 : FRel F B loc (H.aD hh.objs.size []) ⟨hh.push emptyDict, g, dr, t, os⟩ :=
  R.newD (s' := ⟨hh.push emptyDict, g, dr, t, os⟩) (a := hh.objs.size) (cs := []) (Nat.le_refl _) (fun b o e => Heap.get?_push_of_some _ e) (fun p hp => nomatch hp) ⟨_, #[], 0, Heap.get?_push_size _ rfl, ⟨rfl, rfl, rfl⟩, rfl, fun J he => by simp at he, .nil, List.nodup_nil⟩ .nil rfl rfl
 have R2 : FRel F B loc ((H.aI (hh.objs.size + 1) (C, hh.objs.size)).aD hh.objs.size []) ⟨(hh.push emptyDict).push (instObj C hh.objs.size), g, dr, t, os⟩ :=
  R1.newI (s' := ⟨(hh.push emptyDict).push (instObj C hh.objs.size), g, dr, t, os⟩) (a := hh.objs.size + 1) (Cd' := (C, hh.objs.size)) (by show (hh.push emptyDict).objs.size ≤ _; rw [Heap.size_push]; exact Nat.le_refl _) (fun b o e => Heap.get?_push_of_some _ e) (by
   have := Heap.get?_push_size (hh.push emptyDict) (o := instObj C hh.objs.size) rfl
   rw [Heap.size_push] at this; exact this) rfl rfl
 refine h _ (hh.objs.size + 1) hh.objs.size ok.underC (R.fresh_H (R.fresh (Nat.le_succ _)).1) (R.fresh_H (R.fresh (Nat.le_refl _)).1) (Nat.lt_succ_self _) B _ (.ref (hh.objs.size + 1) :: vs) ws _ R2 (.cons (.ref _) rvs) rws ?_
 intro v s' p
 obtain ⟨B', b, l', H', le, r, R', rfl, q⟩ := p
 obtain rfl := r.nI
 exact ⟨rfl, B', _, l', H', le, .ref _, R', q⟩
end
section
section
variable {F : Fx} {loc : Loc} {H : Hp}
theorem zoi {f : V} {Xs Ws : List V} {kws : List Str} {Q : V -> Loc -> Hp -> Prop} (h : zpj F f Xs kws Ws loc H fun X l H => ∃ X' H', Frz X H X' H' ∧ Q X' l H') : zpj F f Xs kws Ws loc H Q := fun B s v vs ws R r rs rw => wpAny_mono (h B s v vs ws R r rs rw) (fun J J p => p.frz) fun J J x => x
end
variable {B : Keep} {vs : List Value} {M : List Value -> Prop}
theorem zad.e4 {X Y Z T : V} (r : zad B vs [X, Y, Z, T]) (h : ∀ v w u t, RelV B v X -> RelV B w Y -> RelV B u Z -> RelV B t T -> M [v, w, u, t]) : M vs := r.ec fun J J a r => r.e3 (M := fun l => M (_ :: l)) fun J J J b c d => h _ _ _ _ a b c d
end
section
variable {F : Fx} {n : Nat} {loc : Loc} {H : Hp}
noncomputable def zln (hb : Keep) (d : Addr) (n ep : Nat) (i : Nat) : ItS := fun B0 B it => B0 it = none ∧ hb it = none ∧ ∃ ok ov, B it = some { cls := .type "dict_itemiterator", dict := none, data := .fields #[.none, .bool false, .ref d, .int i 0, .int n 0, .int ep 0, ok, ov], slots := #[] }
theorem zei {hb : Keep} {d : Addr} {n ep : Nat} (i : Nat) : zdi (zln hb d n ep i) := fun B0 B B' it le hq => by
 obtain ⟨h0, hb, ok, ov, h2⟩ := hq
 exact ⟨h0, hb, ok, ov, le _ _ h2⟩
theorem zfc {elts : List Expr} {x1} {pos : Pos} {d : Addr} {kvs : List (Str × V)} {ep i n : Nat} {k : Str} {x : V} (e : H.D d = some kvs) (eG : H.G d = some ep) (hn : kvs.length = n) (hx : kvs[i]? = some (k, x)) : Nxt F (.Tuple elts x1 pos) (zln F.c.lo d n ep i) H (some (.tup [.str k, x], zln F.c.lo d n ep (i + 1))) := fun E B0 B s it loc N Y R le hq J hY => by
 obtain ⟨h0, hb, ok, ov, h2⟩ := hq
 obtain ⟨cs, hm, hr, hs, hok⟩ := ze8 R e eG
 obtain ⟨v, e1, rv⟩ := hr.at_ hx
 have hlen := hr.length
 have hit : IsItemIter s.heap it d i cs.length ep ok ov := by rw [hlen, hn]; exact R.keep _ _ h2
 refine wpAny_pyNext_items_item (knd := PySem.strKind F.c.prog F.c.w) hit hm e1 fun key h' hkey hout ht hsz hk => ?_
 obtain ⟨t, rfl⟩ := Value.isStrOf_shape hkey
 refine wpAny_letOwnedTupleGo_items (s := { s with heap := h' }) hout fun h'' hit'' hs'' => ?_
 rw [hlen, hn] at hit''
 have hT := R.nobody (a := s.heap.objs.size) (R.fresh (Nat.le_refl _)).1
 have hne : s.heap.objs.size ≠ it := Nat.ne_of_gt (R.lt h2)
 have hk2 : ∀ b o, b ≠ it -> s.heap.get? b = some o -> h''.get? b = some o := fun b o hb q => (hs''.2 b hb).trans (hk b o hb q)
 have R1 : FRel F (za4 B it) loc H { s with heap := h'' } := R.dropIt h2 rfl hb hk2 rfl rfl
 have ki := R.kept h2
 obtain ⟨R2, le2⟩ := R1.take (a := it) hit'' (by simp [za4]) ki.1 ki.2.1 ki.2.2
 obtain ⟨R3, le3⟩ := R2.take (a := s.heap.objs.size) ((hs''.2 _ hne).trans ht) (by unfold addB; rw [if_neg hne]; rw [zbx hne]; exact hT.1) hT.2.1 hT.2.2.1 hT.2.2.2
 have tr : ∀ v X, RelV B v X -> RelV _ v X := fun v X r => ((r.drop h2 rfl).mono le2).mono le3
 have hst : zln F.c.lo d n ep (i + 1) B0 _ it := ⟨h0, hb, .str k t, v, le3 _ _ (by simp only [addB, if_true])⟩
 refine hY _ _ _ (.ref s.heap.objs.size) _ rfl (((zbz le h0).trans le2).trans le3) tr R3 hst ?_
 exact .tup (items := #[.str k t, v]) (n := 0) (by simp [addB]) (.cons (.str _ _ (hok _ (List.mem_of_getElem? hx))) (.cons (tr _ _ rv) .nil))
theorem zct {target : Expr} {d : Addr} {kvs : List (Str × V)} {ep i n : Nat} (hh : F.A.handled = none) (e : H.D d = some kvs) (eG : H.G d = some ep) (hn : kvs.length = n) (hx : n ≤ i) : Nxt F target (zln F.c.lo d n ep i) H none := fun E B0 B s it loc N Y R le hq hN J => by
 obtain ⟨h0, hb, ok, ov, h2⟩ := hq
 obtain ⟨cs, hm, hr, hs, hok⟩ := ze8 R e eG
 have hlen := hr.length
 have hit : IsItemIter s.heap it d i cs.length ep ok ov := by rw [hlen, hn]; exact R.keep _ _ h2
 refine wpAny_pyNext_items_end (knd := PySem.strKind F.c.prog F.c.w) hh hit hm (by rw [List.getElem?_eq_none]; lia) fun h' hs' => ?_
 exact hN _ _ rfl (zbz le h0) (fun J J r => r.drop h2 rfl) (R.dropIt h2 rfl hb (fun b p hne q => hs' b p hne q) rfl rfl)
theorem zfd {o : Expr} {apos pos : Pos} {Q : (Nat -> ItS) -> Loc -> Hp -> Prop} (h : WE F o loc H fun X l H => ∃ d kvs, X = .ref d ∧ H.D d = some kvs ∧ ∀ ep, Q (zln F.c.lo d kvs.length ep) l (H.aG d ep))
  (hbase : attributeBase o "items" F.env (eval o F.env) = eval o F.env := by rfl) (hline : (apos.endLine == pos.line) = true := by rfl) : WIt F (.Call (.Attribute o "items" apos) [] [] pos) loc H Q := fun B s R => by
 rw [arm_eval_Call, hbase]
 refine wpAny_bind ((h B s R).then fun v B1 X l1 H1 s1 le1 rv R1 ⟨d, kvs, hX, eD, q⟩ => wpAny_bind (wpAny_standAt ?_))
 subst hX
 obtain rfl := rv.rI
 show wpAny _ _ (methodCall o "items" apos pos F.env (.ref d) _ _ _) _ _ _
 unfold methodCall
 have hfew : methodCallForm (([] : List Expr).length + ([] : List Keyword).length) (backTo pos (starEach [] F.env)) (backToKw pos (keywordEach [] F.env)) = true := by rfl
 rw [hfew]
 refine wpAny_bind (wpAny_holding ?_)
 show wpAny _ _ (getMethod (.ref d) "items" _) _ _ _
 obtain ⟨hT1, hT2⟩ := zjq (F := F) (loc := l1) (H := H1) eD B1 s1 (.ref d) R1 (.ref d)
 refine getMethod_builtin hT1 PySem.F.plainAttrs_dict PySem.F.slot_dict_items PySem.F.type_dict_items hT2 ?_
 have hp : methodCallPos true o F.env apos pos = pure pos := by unfold methodCallPos; rw [hline]; rfl
 dsimp only
 refine wpAny_bind ?_
 rw [hp]
 refine wpAny_pure ?_
 obtain ⟨cs, hm, hr, hs⟩ := zcp R1 eD
 refine zbl (by rfl) (zbm (by rfl) (spliced_nil ⟨?_, ?_⟩))
 ·obtain ⟨k, hk⟩ := zdc (F := F) (loc := l1) (H := H1) (v := .builtin "dict.items") (by intro a h; cases h) B1 s1 (.builtin "dict.items") R1 (.raw _)
  exact ⟨k, fun Q' q' => hk Q' q'⟩
 ·refine call_meetsIn PySem.F.slot_dict_items hT1 PySem.F.entry_dict_items (PySem.F.args_dict_items_1 _) (meets_dict_items (PySem.strKind F.c.prog F.c.w) d hs) ⟨⟨cs, hm⟩, ?_⟩
  obtain ⟨ep, hm⟩ := hm.dictAt
  obtain ⟨od, es, w1, w2, w3, w4⟩ := id hm
  have R2 : FRel F B1 l1 H1 { s1 with heap := s1.heap.push { cls := .type "dict_items", data := .fields #[.ref d] } } := R1.grow (fun b o e => Heap.get?_push_of_some _ e) rfl rfl
  have w1' := Heap.get?_push_of_some (h := s1.heap) { cls := .type "dict_items", data := .fields #[.ref d] } w1
  refine wpAny_pyIter_items (knd := PySem.strKind F.c.prog F.c.w) (d := d) (kvs := cs) (ep := ep) (s := { s1 with heap := s1.heap.push { cls := .type "dict_items", data := .fields #[.ref d] } }) ⟨_, Heap.get?_push_size _ rfl, rfl, rfl⟩ (hm.push _) ?_
  have R3 := R2.know eD w1' w3
  have hlen := hr.length
  have z := R3.hold (s' := { s1 with heap := (s1.heap.push { cls := .type "dict_items", data := .fields #[.ref d] }).push { cls := .type "dict_itemiterator", data := .fields #[.none, .bool false, .ref d, .int 0 0, .int cs.length 0, .int ep 0, .none, .none] } }) (a := (s1.heap.push { cls := .type "dict_items", data := .fields #[.ref d] }).objs.size) (o := { cls := .type "dict_itemiterator", data := .fields #[.none, .bool false, .ref d, .int 0 0, .int cs.length 0, .int ep 0, .none, .none] }) (Nat.le_refl _) (fun b o e => Heap.get?_push_of_some _ e) (Heap.get?_push_size _ rfl) rfl rfl
  have hn := (R2.fresh (Nat.le_refl _)).1
  have h1 := R2.fresh_B hn
  have h2 : B (s1.heap.push { cls := .type "dict_items", data := .fields #[.ref d] }).objs.size = none := by
   cases e : B (s1.heap.push { cls := .type "dict_items", data := .fields #[.ref d] }).objs.size with
   | none => rfl
   | some o => rw [le1 _ _ e] at h1; cases h1
  refine ⟨_, _, _, _, zln F.c.lo d kvs.length ep, rfl, le1.trans z.2.1, z.1, ⟨h2, zbo R.based.2 h2, .none, .none, ?_⟩, q ep⟩
  rw [← hlen]
  exact z.2.2
end
section
variable {c : Base} {L : Addr} {nm : List (Str × NameKind)} {B : Keep} {loc : Loc} {H : Hp} {s : Shared}
theorem Rel.addsv {l : List (Addr × Obj)} {a : Addr} {q o : Obj} (R : Rel (c.sv l) L nm B loc H s) (ho : s.heap.get? a = some o) (hq : SvOk q o) (h1 : B a = none) (h2 : ¬ H.Own a) (h3 : a ≠ L) : Rel (c.sv ((a, q) :: l)) L nm B loc H s :=
 ⟨R.keep, R.based, fun a => (R.own a).unsv.sv, R.lB, R.lH, R.ns, R.gens, R.os, R.lim, fun p hp => by
  cases hp with
  | head _ => exact ⟨⟨o, ho, hq⟩, h1, h2, h3⟩
  | tail _ hp => exact R.sv p hp⟩
end
noncomputable def zbe (P : Addr) (l : List (Addr × Obj)) : List (Addr × Obj) := (P, znj) :: l.filter fun p => p.1 ≠ P
theorem zm9 {P : Addr} {l : List (Addr × Obj)} (h : ∃ o, (P, o) ∈ l) : ∀ p ∈ zbe P l, ∃ q ∈ l, q.1 = p.1 := fun p hp => by
 cases hp with
 | head _ => obtain ⟨o, h⟩ := h; exact ⟨_, h, rfl⟩
 | tail _ hp => exact ⟨p, (List.mem_filter.mp hp).1, rfl⟩
theorem zk8 {P a : Addr} {o : Obj} {l : List (Addr × Obj)} (h : a ≠ P) : ∀ p ∈ (a, o) :: zbe P l, p ∈ zbe P ((a, o) :: l) := fun p hp => by
 unfold zbe
 rw [List.filter_cons, if_pos (by simpa using h)]
 cases hp with
 | head _ => exact .tail _ (.head _)
 | tail _ hp => cases hp with
  | head _ => exact .head _
  | tail _ hp => exact .tail _ (.tail _ hp)
section
variable {F : Fx} {n : Nat} {loc : Loc} {H : Hp} {nm : List (Str × NameKind)} {cl : List (Str × Addr)}
theorem Post.svmem {l1 l2 : List (Addr × Obj)} {α β : Type} {ρ : Keep -> α -> β -> Prop} {B : Keep} {Q : β -> Loc -> Hp -> Prop} {a : α} {s' : Shared} (p : Post (F.svd l1) ρ B Q a s') (h : ∀ p ∈ l2, p ∈ l1) : Post (F.svd l2) ρ B Q a s' := by
 obtain ⟨B', b, l, H', x1, x2, x3, x4⟩ := p
 exact ⟨B', b, l, H', x1, x2, Rel.svmem x3 h, x4⟩
theorem WSsx.svmem {l1 l2 : List (Addr × Obj)} {st : List Stmt} {Q : Fl -> Loc -> Hp -> Prop} (k : WSsx F l1 st loc H Q) (h : ∀ p ∈ l2, p ∈ l1) : WSsx F l2 st loc H Q := fun B s R => wpAny_mono (k B s R) (fun J J p => p.svmem h) fun J J x => x
theorem Ok.svd (ok : Ok F n) {l : List (Addr × Obj)} (h : ∀ p ∈ F.c.saved, (∃ es ep, p.2.data = .dict es ep) -> p ∈ l) : Ok (F.svd l) n :=
 ⟨ok.fn, ok.glob, ok.bi, ok.dbg, ok.units, ok.depth, ok.handled, by
  obtain ⟨fl, h1, h2⟩ := ok.fr
  refine ⟨fl, h1, fun e he => ?_⟩
  obtain ⟨g1, g2⟩ := h2 e he
  refine ⟨g1, ?_⟩
  rcases g2 with g2 | ⟨p, hp, g2, g3⟩
  ·exact .inl g2
  ·exact .inr ⟨p, h p hp g3, g2, g3⟩⟩
theorem zk9 {P : Addr} {l : List (Addr × Obj)} {oP : Obj} (R : ∀ p ∈ l, p.1 = P -> ∀ es ep, p.2.data ≠ .dict es ep) : ∀ p ∈ l, (∃ es ep, p.2.data = .dict es ep) -> p ∈ zbe P l := fun p hp ⟨es, ep, e⟩ =>
 .tail _ (List.mem_filter.mpr ⟨hp, by simpa using fun z => R p hp z es ep e⟩)
structure Nest (b : Heap) (c P : Addr) : Prop where
 hd : CodeHd b c P
 bi : ∃ mg, b.Ns mainGlobals mg ∧ b.BuiltinsAt mg P
 ne : mainGlobals ≠ P
theorem zp7 (ok : Ok F n) (hF : zah F nm cl) {c P : Addr} (N : Nest F.c.base c P) (hcode : F.env.code = .ref c) (hP : (P, zf3 #[]) ∈ F.c.saved) {name : Str} {i : Nat} {ca : Addr} {ov : Option V} {params : Arguments} {body rest : List Stmt} {scope : Scope} {clos : List (Str × Addr)} {pos : Pos} {Q : Fl -> Loc -> Hp -> Prop}
  (hx : look nm name = some (i, .cell)) (hcl : cl.lookup name = some ca) (e : H.C ca = some ov) (hclos : closureFor scope F.env = pure clos) (hdef : ∀ env, defaultsOf params env = ([], [])) (hann : ∀ env, annTrees params none env = [])
  (h : ∀ f fo c' co doc pm ctv vs t, fo.data = .func (fnX name (qualnameIn F.env name name) params body scope clos .none .none doc pm none (.ref c') ctv) -> co.data = .fields vs -> vs[1]? = some (.str (qualnameIn F.env name name) t) →
   Ok (F.svd ((f, fo) :: (c', co) :: zbe P F.c.saved)) n -> WSs (F.svd ((f, fo) :: (c', co) :: zbe P F.c.saved)) rest loc (H.aC ca (some (.ref f))) Q) :
  WSsx F (zbe P F.c.saved) (.FunctionDef name params body [] none [] scope none name pos :: rest) loc H Q := fun B s R => by
 obtain ⟨⟨oP, hoP, hsv⟩, pB, pH, pL⟩ := R.sv _ hP
 have hoP' : oP = zf3 #[] := hsv.same (fun es ep z => by cases z) (fun z => by injection z with z1 z2 z3; cases z3)
 subst hoP'
 obtain ⟨mg, hg, hb⟩ := N.bi
 have inB : ∀ b o, F.c.base.get? b = some o -> s.heap.get? b = some o := fun b o e => R.inBase e
 refine wpAny_execs_cons ?_
 rw [exec_def, hdef, hann]
 refine wpAny_bind (wpAny_standAt (wpAny_bind (wpAny_holding ?_)))
 refine wpAny_bind (wpAny_pure (wpAny_bind (wpAny_holding (wpAny_pure (wpAny_holding (wpAny_bind (wpAny_pure ?_)))))))
 refine makeFunction_K (s := s) hclos ok.glob (hg.keeps inB) hcode (N.hd.keeps inB) hoP trivial rfl N.ne (hb.keeps inB) fun c' ctv doc h' tk hx' hge hlt hrec htb => ?_
 generalize hfo : fnMade name (qualnameIn F.env name name) params body scope clos doc ((mg "__name__").getD .none) c' ctv = fo
 obtain ⟨c2, co, vs, t, he, hco, hcd, hcq⟩ := hrec
 injection he with he; subst he
 have key : ∀ b o, b ≠ P -> s.heap.get? b = some o -> (h'.push fo).get? b = some o := fun b o hb q => Heap.get?_push_of_some _ (hx' b o hb q)
 have R0 : Rel (F.c.sv (F.c.saved.filter fun p => p.1 ≠ P)) F.L F.nm B loc H s := Rel.svmem (c := F.c) (l1 := F.c.saved) R fun p hp => (List.mem_filter.mp hp).1
 have R1 : Rel (F.c.sv (F.c.saved.filter fun p => p.1 ≠ P)) F.L F.nm B loc H { s with heap := h'.push fo, toks := tk } := R0.free (· = P) (fun a z => by
  subst z
  exact ⟨pB, pH, pL, fun p hp z => by have := (List.mem_filter.mp hp).2; simp [z] at this⟩) (fun b o hb q => key b o hb q) rfl rfl
 have R2 := R1.addsv (a := P) (q := znj) (Heap.get?_push_of_some _ htb) (.inr ⟨rfl, _, rfl⟩) pB pH pL
 have nc := R.nobody (R.fresh hge).1
 have R3 := R2.addsv (a := c') (q := co) (Heap.get?_push_of_some _ hco) (.inl ⟨rfl, fun J => rfl⟩) nc.1 nc.2.1 nc.2.2.1
 have nf := R.nobody (R.fresh (Nat.le_trans hge (Nat.le_of_lt hlt))).1
 have R4 := R3.addsv (a := h'.objs.size) (q := fo) (Heap.get?_push_size _ (by subst hfo; rfl)) (.inl ⟨rfl, fun J => rfl⟩) nf.1 nf.2.1 nf.2.2.1
 have R5 : FRel (F.svd ((h'.objs.size, fo) :: (c', co) :: zbe P F.c.saved)) B loc H { s with heap := h'.push fo, toks := tk } := R4
 have ok' : Ok (F.svd ((h'.objs.size, fo) :: (c', co) :: zbe P F.c.saved)) n := ok.svd fun p hp hd => by
  refine .tail _ (.tail _ (zk9 (oP := znj) (fun p hp z es ep e => ?_) p hp hd))
  obtain ⟨⟨o, h1, h2⟩, _⟩ := R.sv p hp
  rw [z, hoP] at h1; cases h1
  have := (h2.dict e).trans e
  cases this
 refine wpAny_bind (wpAny_standAt (wpAny_bind (wpAny_bindName ?_)))
 refine zg1 (F := F.svd ((h'.objs.size, fo) :: (c', co) :: zbe P F.c.saved)) ok' (by rw [show Fx.nm (F.svd _) = nm from hF.1]; exact hx) (by rw [show (F.svd _).env.cells = cl from hF.2]; exact hcl) e R5 (.ref _) fun s' R6 => wpAny_pure ?_
 refine wpAny_mono (h h'.objs.size fo c' co doc ((mg "__name__").getD .none) ctv vs t (by subst hfo; rfl) hcd hcq ok' B s' R6) (fun fl s2 p => ?_) fun J J x => x
 exact p.svmem fun p hp => .tail _ (.tail _ hp)
structure Clo (sv : List (Addr × Obj)) (f : Addr) (fd : FuncData) (body : List Stmt) (pn : Str) : Prop where
 at_ : ∃ fo, (f, fo) ∈ sv ∧ fo.data = .func fd
 code : ∃ c co vs t, fd.code = .ref c ∧ (c, co) ∈ sv ∧ co.data = .fields vs ∧ vs[1]? = some (.str fd.qualname t) ∧ 2 ≤ vs.size
 body : fd.body = .stmts body
 glob : fd.globals = mainGlobals
 bi : fd.builtins = builtinsNs
 kind : fd.scope.kind = .function
 co : fd.scope.isCoroutine = false
 gen : fd.scope.isGenerator = false
 dbg : fd.scope.names.lookup ("__debug__" : Str) = none
 cell : ∀ x ∈ fd.scope.names, x.2 ≠ .cell
 loc : fd.scope.names.lookup pn = some .local
 bind : ∀ v, bindArgs fd ⟨[v], []⟩ = pure [(pn, v)]
set_option tactic.hygienic true in
theorem zmc (ok : Ok F (n + 1)) (hlim : F.c.base.NoLimit) {f : Addr} {fd : FuncData} {body : List Stmt} {pn : Str} (W : Clo F.c.saved f fd body pn) {X : V} {Q : V -> Loc -> Hp -> Prop}
  (h : ∀ oL A L E, Ok ⟨F.c.sv ((F.L, oL) :: F.c.saved), A, callEnv fd L f, E⟩ n -> Top ⟨F.c.sv ((F.L, oL) :: F.c.saved), A, callEnv fd L f, E⟩ →
   WSs ⟨F.c.sv ((F.L, oL) :: F.c.saved), A, callEnv fd L f, E⟩ body (zbq fd.scope.names [(pn, X)]) H fun fl J H' => Q (retV fl) loc H') : Call F (.ref f) [X] loc H Q := fun B s v vs R rv rvs => by
 obtain rfl := rv.rI
 obtain ⟨_, rfl, ra⟩ := rvs.c1
 rename_i v
 obtain ⟨fo, hf, hfd⟩ := W.at_
 obtain ⟨c, co, us, t, hc, hco, hcd, hcq, hcz⟩ := W.code
 obtain ⟨⟨o1, ho1, hs1⟩, _⟩ := R.sv _ hf
 have e1 := hs1.same (fun es ep z => by rw [hfd] at z; cases z) (fun z => by dsimp only at z; subst z; cases hfd)
 subst e1
 obtain ⟨⟨o2, ho2, hs2⟩, _⟩ := R.sv _ hco
 have e2 := hs2.same (fun es ep z => by rw [hcd] at z; cases z) (fun z => by
  dsimp only at z; subst z
  injection hcd with hcd; subst hcd
  exact absurd hcz (by decide))
 subst e2
 obtain ⟨mL, ⟨oL, esL, epL, hL, hdL, hkL⟩, hlL⟩ := R.ns
 refine wpAny_call (codeAny_call_def (fd := fd) (body := body) (binds := [(pn, v)]) (by have := ok.depth; lia) ho1 hfd (hlim.keeps fun b o e => R.inBase e) ⟨c, _, us, t, hc, ho2, hcd, hcq⟩ W.body (BindsTo.of_eq (W.bind v)) W.cell (fun x hx => by
  rw [List.mem_singleton] at hx; subst hx; exact W.loc) (fun h₀ hns hk => ?_) W.co W.gen W.kind)
 have ok' : ∀ E', Ok ⟨F.c.sv ((F.L, oL) :: F.c.saved), F.A.deeper (callEnv fd s.heap.objs.size f), callEnv fd s.heap.objs.size f, E'⟩ n := fun E' => by
  refine ⟨W.kind, W.glob, W.bi, W.dbg, ?_, ?_, fun J => ok.handled (by lia), ?_⟩
  ·have := ok.units
   show F.A.units + 3 + 40 * n + 200 < cLine
   lia
  ·have := ok.depth
   show F.A.depth + 1 + 4 * n + 4 < recursionLimit
   lia
  ·obtain ⟨fl, h1, h2⟩ := ok.fr
   refine ⟨callEnv fd s.heap.objs.size f :: fl, by show F.A.frames.map _ = _; rw [h1]; rfl, fun e he => ?_⟩
   cases he with
   | head _ => exact ⟨(by show fd.scope.kind ≠ .module; rw [W.kind]; intro h; cases h), .inl rfl⟩
   | tail _ he =>
    obtain ⟨g1, g2⟩ := h2 e he
    refine ⟨g1, .inr ?_⟩
    rcases g2 with g2 | ⟨p, hp, g2⟩
    ·exact ⟨_, .head _, g2, esL, epL, hdL⟩
    ·exact ⟨p, .tail _ hp, g2⟩
 have top' : ∀ E', Top ⟨F.c.sv ((F.L, oL) :: F.c.saved), F.A.deeper (callEnv fd s.heap.objs.size f), callEnv fd s.heap.objs.size f, E'⟩ := fun E' => by
  obtain ⟨fl, h1, h2⟩ := ok.fr
  exact ⟨fl, by show F.A.frames.map _ = _; rw [h1]; rfl, rfl⟩
 have hl : zdh B fd.scope.names (zbq fd.scope.names [(pn, X)]) (fun x => [(pn, v)].reverse.lookup x) := by
  intro x i Y hx hl
  obtain ⟨k, h1, h2⟩ := zts hx
  unfold zbq at hl
  rw [List.getElem?_map, h1] at hl
  simp only [Option.map_some, Option.some.injEq] at hl
  split at hl
  ·rw [List.lookup_cons] at hl
   show ∃ v', List.lookup x [(pn, v)] = some v' ∧ _
   rw [List.lookup_cons]
   split at hl
   ·rename_i hh
    cases hl
    exact ⟨v, rfl, ra⟩
   ·cases hl
  ·cases hl
 have R1 : Rel (F.c.sv ((F.L, oL) :: F.c.saved)) s.heap.objs.size fd.scope.names B (zbq fd.scope.names [(pn, X)]) H { s with heap := h₀, toks := s.toks + 1 } :=
  R.into (s' := { s with heap := h₀, toks := s.toks + 1 }) hL hk (Nat.le_refl _) hns hl rfl rfl
 refine wpAny_mono (h oL _ s.heap.objs.size _ (ok' _) (top' _) B _ R1) (fun fl s' p => ?_) fun J J x => x
 obtain ⟨B2, b, l2, H2, le2, rf, R3, q⟩ := p
 obtain ⟨oL', hL', hd'⟩ := (R3.sv _ (.head _)).1
 have R4 : FRel F B2 loc H2 s' := R3.back (fun p hp => (R.sv p hp).2.2.2) ⟨oL', esL, epL, hL', (hd'.dict hdL).trans hdL, hkL⟩ (hlL.mono le2)
 refine ⟨B2, retV b, loc, H2, le2, ?_, R4, q⟩
 cases rf with
 | next => exact .none
 | brk => exact .none
 | cont => exact .none
 | ret r => exact r
end
section
variable {F : Fx} {n : Nat} {loc : Loc} {H : Hp} {sv' : List (Addr × Obj)}
noncomputable def WEx (F : Fx) (sv' : List (Addr × Obj)) (e : Expr) (loc : Loc) (H : Hp) (Q : V -> Loc -> Hp -> Prop) : Prop := ∀ B s, FRel F B loc H s -> wpAny F.M F.A (eval e F.env) (Post (F.svd sv') RelV B Q) F.E s
noncomputable def WBx (F : Fx) (sv' : List (Addr × Obj)) (e : Expr) (loc : Loc) (H : Hp) (Q : Bool -> Loc -> Hp -> Prop) : Prop := ∀ B s, FRel F B loc H s -> wpAny F.M F.A (isTrue e F.env (eval e F.env)) (Post (F.svd sv') eqR B Q) F.E s
noncomputable def WSx (F : Fx) (sv' : List (Addr × Obj)) (st : Stmt) (loc : Loc) (H : Hp) (Q : Fl -> Loc -> Hp -> Prop) : Prop := ∀ B s, FRel F B loc H s -> wpAny F.M F.A (exec st F.env) (Post (F.svd sv') RelF B Q) F.E s
noncomputable def zq1 (F : Fx) (sv' : List (Addr × Obj)) (f : V) (Xs : List V) (loc : Loc) (H : Hp) (Q : V -> Loc -> Hp -> Prop) : Prop :=
 ∀ B s v vs, FRel F B loc H s -> RelV B v f -> zad B vs Xs -> wpAny F.M F.A (call v vs) (Post (F.svd sv') RelV B Q) F.E s
theorem zgo {α β : Type} {t : Sem α} {ρ : Keep -> α -> β -> Prop} {B : Keep} {s : Shared} {Q : β -> Loc -> Hp -> Prop} {P : α -> Shared -> Prop} (p : wpAny F.M F.A t (Post (F.svd sv') ρ B Q) F.E s)
  (k : ∀ a B' b l H s', Le B B' -> ρ B' a b -> FRel (F.svd sv') B' l H s' -> Q b l H -> P a s') : wpAny F.M F.A t P F.E s :=
 wpAny_mono p (fun a s' ⟨B', b, l, H, x1, x2, x3, x4⟩ => k a B' b l H s' x1 x2 x3 x4) fun J J x => x
theorem zoj {o : Expr} {name : Str} {apos pos : Pos} {args : List Expr} {Q : V -> Loc -> Hp -> Prop}
  (h : WE F o loc H fun X l1 H1 => MGet F name X l1 H1 fun f Fs l2 H2 => WEs F pos args l2 H2 fun Xs l3 H3 => zc6 F f l3 H3 ∧ zq1 F sv' f (Fs ++ Xs) l3 H3 Q)
  (hbase : attributeBase o name F.env (eval o F.env) = eval o F.env := by rfl)
  (hfew : methodCallForm (args.length + ([] : List Keyword).length) (backTo pos (starEach args F.env)) (backToKw pos (keywordEach [] F.env)) = true := by rfl)
  (hline : (apos.endLine == pos.line) = true := by rfl)
  (hns : (backTo pos (starEach args F.env)).any (·.1) = false := by rfl) : WEx F sv' (.Call (.Attribute o name apos) args [] pos) loc H Q := fun B s R => by
 show wpAny F.M F.A (eval (.Call (.Attribute o name apos) args [] pos) F.env) _ _ _
 rw [arm_eval_Call, hbase]
 refine wpAny_bind ((h B s R).then fun v B1 X l1 H1 s1 le1 rv R1 h1 => wpAny_bind (wpAny_standAt ?_))
 show wpAny _ _ (methodCall o name apos pos F.env v _ _ _) _ _ _
 unfold methodCall
 rw [hfew]
 refine wpAny_bind (wpAny_holding ?_)
 show wpAny _ _ (getMethod v name _) _ _ _
 refine (h1 B1 s1 v _ R1 rv).then fun p B2 q l2 H2 s2 le2 rq R2 h2 => ?_
 have hp : methodCallPos true o F.env apos pos = pure pos := by unfold methodCallPos; rw [hline]; rfl
 obtain ⟨f, fs⟩ := p
 dsimp only
 refine wpAny_bind ?_
 rw [hp]
 refine wpAny_pure ?_
 refine zbl hns (zbm hns ((h2 B2 s2 R2).then fun vs B3 Xs l3 H3 s3 le3 rv' R3 h3 =>
  ⟨h3.1 B3 s3 f R3 (rq.1.mono le3), wpAny_mono (h3.2 B3 s3 f _ R3 (rq.1.mono le3) ((rq.2.mono le3).append rv')) (fun J J p => p.lift (le1.trans (le2.trans le3))) fun J J x => x⟩))
theorem zna {x : Str} {np pos : Pos} {a : Expr} {Q : V -> Loc -> Hp -> Prop}
  (h : WE F (.Name x np) loc H fun f l1 H1 => WEx F sv' a l1 H1 fun X l2 H2 => zc6 (F.svd sv') f l2 H2 ∧ Call (F.svd sv') f [X] l2 H2 Q)
  (he : starEach [a] F.env = (false, eval a F.env) :: starEach [] F.env := by rfl) (hns : (backTo pos (starEach [a] F.env)).any (·.1) = false := by rfl) : WEx F sv' (.Call (.Name x np) [a] [] pos) loc H Q := fun B s R =>
 wpAny_Call_ofName ((h B s R).then fun f B1 X l1 H1 s1 le1 rf R1 h1 => zbl hns (zbm hns (by
  rw [he]
  refine spliced_cons (zgo (h1 B1 s1 R1) fun v B2 X l2 H2 s2 le2 rv R2 h2 => spliced_nil ?_)
  exact ⟨h2.1 B2 s2 f R2 (rf.mono le2), wpAny_mono (h2.2 B2 s2 f [v] R2 (rf.mono le2) (.cons rv .nil)) (fun J J p => p.lift (le1.trans le2)) fun J J x => x⟩)))
theorem zla {l r : Expr} {op : CmpOp} {pos : Pos} {Q : Bool -> Loc -> Hp -> Prop} (h : WEx F sv' l loc H fun X l1 H1 => WE (F.svd sv') r l1 H1 fun Y l2 H2 => Cmp (F.svd sv') op X Y l2 H2 Q) (hm : behindInMarks op r = false := by with_unfolding_all rfl) : WBx F sv' (.Compare l [op] [r] pos) loc H Q := fun B s R =>
 wpAny_isTrue_Compare1 (zgo (h B s R) fun a B1 X l1 H1 s1 le1 ra R1 h1 => PW.then (F := F.svd sv') (h1 B1 s1 R1) fun b B2 Y l2 H2 s2 le2 rb R2 h2 =>
  PW.then (F := F.svd sv') (h2 B2 s2 a b R2 (ra.mono le2) rb) fun v B3 t l3 H3 s3 le3 e R3 q => by subst e; exact wpAny_truthy_bool ((Post.pure rfl R3 q).lift (le1.trans (le2.trans le3)))) hm
theorem zt4 {t : Expr} {b o : List Stmt} {pos : Pos} {Q : Fl -> Loc -> Hp -> Prop} (h : WBx F sv' t loc H fun c l1 H1 => (c = true -> WSs (F.svd sv') b l1 H1 Q) ∧ (c = false -> WSs (F.svd sv') o l1 H1 Q)) : WSx F sv' (.If t b o pos) loc H Q := fun B s R =>
 wpAny_If (zgo (h B s R) fun a B1 b l1 H1 s1 le1 ra R1 q => by
  subst ra
  cases a with
  | true => exact wpAny_mono (q.1 rfl B1 s1 R1) (fun J J p => p.lift le1) fun J J x => x
  | false => exact wpAny_mono (q.2 rfl B1 s1 R1) (fun J J p => p.lift le1) fun J J x => x)
theorem zok {st : Stmt} {rest : List Stmt} {Q : Fl -> Loc -> Hp -> Prop} (h : WSx F sv' st loc H fun f l1 H1 => match f with | .next => WSs (F.svd sv') rest l1 H1 Q | f => Q f l1 H1) : WSsx F sv' (st :: rest) loc H Q := fun B s R =>
 wpAny_execs_cons (zgo (h B s R) fun a B1 b l1 H1 s1 le1 ra R1 q => by
  cases ra with
  | next => exact wpAny_mono (q B1 s1 R1) (fun J J p => p.lift le1) fun J J x => x
  | brk => exact (Post.pure .brk R1 q).lift le1
  | cont => exact (Post.pure .cont R1 q).lift le1
  | ret r => exact (Post.pure (.ret r) R1 q).lift le1)
theorem zcl {st : Stmt} {rest : List Stmt} {Q : Fl -> Loc -> Hp -> Prop} (h : WS F st loc H fun f l1 H1 => f = .next ∧ WSsx F sv' rest l1 H1 Q) : WSsx F sv' (st :: rest) loc H Q := fun B s R =>
 wpAny_execs_cons ((h B s R).then fun a B1 b l1 H1 s1 le1 ra R1 q => by
  obtain ⟨e, q⟩ := q
  subst e
  cases ra
  exact wpAny_mono (q B1 s1 R1) (fun J J p => p.lift le1) fun J J x => x)
theorem zu7 (ok : Ok F (n + 1)) {K : Frag} (W : Wd K F.c.base) {f : Addr} {fd : FuncData} {body : List Stmt} (pn : List Str) {Xs Vs : List V} {l0 : Loc} {nm : List (Str × NameKind)} {Q : V -> Loc -> Hp -> Prop}
  (hsv : ∀ p ∈ sv', ∃ q ∈ F.c.saved, q.1 = p.1) (hfd : kFd K f = some fd) (hb : fd.body = .stmts body) (hnm : fd.scope.names = nm) (ho : okFd K fd = true) (hp : zlm fd pn = true) (hbind : zhk F.M F.c.base fd [] pn Xs [] Vs) (hl : zbq nm (pn.zip Vs) = l0)
  (h : ∀ (oL : Obj) (L : Addr) A E, Ok ⟨F.c.sv ((F.L, oL) :: F.c.saved), A, callEnvC fd L f, E⟩ n -> Top ⟨F.c.sv ((F.L, oL) :: F.c.saved), A, callEnvC fd L f, E⟩ -> zah ⟨F.c.sv ((F.L, oL) :: F.c.saved), A, callEnvC fd L f, E⟩ nm (cellsFrom (L + 1) nm []) -> (∀ x c, (x, c) ∈ cellsFrom (L + 1) nm [] -> H.Fresh c) →
   WSsx ⟨F.c.sv ((F.L, oL) :: F.c.saved), A, callEnvC fd L f, E⟩ ((F.L, oL) :: sv') body l0 (za7 H (pn.zip Vs) (cellsFrom (L + 1) nm [])) fun fl J H' => Q (retV fl) loc H') : zq1 F sv' (.ref f) Xs loc H Q := fun B s v vs R rv rvs => by
 subst hnm
 subst hl
 obtain rfl := rv.rI
 exact wpAny_call (zji (kws := []) (Ws := []) (ws := []) (RR := fun r s' => match r with | .ok (.ret v) => Post (F.svd sv') RelV B Q v s' | .ok _ => False | .error e => F.E e s') ok (Fn.of W hfd hb ho) hsv (fun vs ws B r1 r2 le => let ⟨us, h1, h2⟩ := hbind vs ws B r1 r2 le; ⟨_, h1, ze7 h2⟩) (zjs hp Vs).1 (zjs hp Vs).2
  (fun oL L ok' tp hf => h oL L _ _ ok' tp ⟨rfl, rfl⟩ hf) R rvs .nil fun v s' p => p)
end
noncomputable def kAt (kf : Value -> List Nat) (xs : Array Keyed) (i : Nat) : List Nat := match xs[i]? with
 | some p => kf p.1
 | none => []
theorem zd6 {kf : Value -> List Nat} {xs ys : Array Keyed} {i j : Nat} (h : xs[i]? = ys[j]?) : kAt kf xs i = kAt kf ys j := by unfold kAt; rw [h]
structure TB (a₀ : Array Keyed) (st : SortSt) : Prop where
 perm : (arrOf st).Perm a₀
 kind : kindOf st = tuples' true
 failed : failedOf st = none
 pend : pendingOf st = #[]
theorem TB.size {a₀ : Array Keyed} {st : SortSt} (h : TB a₀ st) : (arrOf st).size = a₀.size := h.perm.size_eq
theorem TB.arr {a₀ : Array Keyed} {st : SortSt} (h : TB a₀ st) {xs : Array Keyed} (hp : xs.Perm (arrOf st)) : TB a₀ (setArr st xs) := ⟨hp.trans h.perm, h.kind, h.failed, h.pend⟩
noncomputable def Inc (kf : Value -> List Nat) (xs : Array Keyed) (n : Nat) : Prop := ∀ i j, i < j -> j < n -> kAt kf xs i < kAt kf xs j
noncomputable def Dec (kf : Value -> List Nat) (xs : Array Keyed) (n : Nat) : Prop := ∀ i j, i < j -> j < n -> kAt kf xs j < kAt kf xs i
theorem zi1 {a b : List Nat} (h : ¬ a < b) (hn : a ≠ b) : b < a := by
 apply Classical.byContradiction
 intro h2
 exact hn (List.le_antisymm (List.not_lt.mp h2) (List.not_lt.mp h))
section
variable {prog : Program} {w : World} {A : Around} {E : Value -> Shared -> Prop} {s : Shared} {a₀ : Array Keyed} {kf : Value -> List Nat}
structure Keys (prog : Program) (w : World) (A : Around) (s : Shared) (kf : Value -> List Nat) (a₀ : Array Keyed) : Prop where
 nd : (a₀.toList.map fun p => kf p.1).Nodup
 lt : ∀ p ∈ a₀.toList, ∀ q ∈ a₀.toList, kf p.1 ≠ kf q.1 -> ∀ (E : Value -> Shared -> Prop) (Q : Bool -> Shared -> Prop), Q (decide (kf p.1 < kf q.1)) s -> wpAny (model prog w) A (keyLt' (tuples' true) p.1 q.1) Q E s
theorem Keys.ne (K : Keys prog w A s kf a₀) {st : SortSt} (hB : TB a₀ st) {i j : Nat} (hi : i < a₀.size) (hj : j < a₀.size) (h : i ≠ j) : kAt kf (arrOf st) i ≠ kAt kf (arrOf st) j := by
 have hp := (Array.perm_iff_toList_perm.mp hB.perm)
 have hn : ((arrOf st).toList.map fun p => kf p.1).Nodup := (hp.map _).nodup_iff.mpr K.nd
 have hi' : i < (arrOf st).toList.length := by rw [Array.length_toList, hB.size]; exact hi
 have hj' : j < (arrOf st).toList.length := by rw [Array.length_toList, hB.size]; exact hj
 intro e
 unfold kAt at e
 rw [← Array.getElem?_toList, ← Array.getElem?_toList, List.getElem?_eq_getElem hi', List.getElem?_eq_getElem hj'] at e
 have := (List.getElem_inj (i := i) (j := j) (h₀ := by simpa using hi') (h₁ := by simpa using hj') hn).mp (by simpa using e)
 exact h this
theorem zj2 (K : Keys prog w A s kf a₀) {st : SortSt} (hB : TB a₀ st) {i j : Nat} {Q : Option Bool -> SortSt -> Prop} (hi : i < a₀.size) (hj : j < a₀.size) (hij : i ≠ j) (h : Q (some (decide (kAt kf (arrOf st) i < kAt kf (arrOf st) j))) st) : wpS (model prog w) A E s (ltAt' i j) Q st := by
 have hne := K.ne hB hi hj hij
 have hp := (Array.perm_iff_toList_perm.mp hB.perm)
 have ei : (arrOf st)[i]? = some ((arrOf st)[i]'(by rw [hB.size]; exact hi)) := getElem?_pos _ i _
 have ej : (arrOf st)[j]? = some ((arrOf st)[j]'(by rw [hB.size]; exact hj)) := getElem?_pos _ j _
 have mi := hp.mem_iff.mp (Array.getElem_mem_toList (xs := arrOf st) (by rw [hB.size]; exact hi))
 have mj := hp.mem_iff.mp (Array.getElem_mem_toList (xs := arrOf st) (by rw [hB.size]; exact hj))
 unfold kAt at h hne
 rw [ei, ej] at h hne
 rw [ltAt'_eq]
 refine wpS_bind (wpS_get ?_)
 show wpS _ _ _ _ (do let x ← elem' (arrOf st) i; let y ← elem' (arrOf st) j; lt' x y) Q st
 rw [elem'_eq, elem'_eq, ei, ej]
 refine wpS_bind (wpS_pure (wpS_bind (wpS_pure ?_)))
 rw [lt'_eq]
 refine wpS_bind (wpS_get ?_)
 rw [hB.kind]
 refine wpS_bind (wpS_lift (wpAny_attempt (K.lt _ mi _ mj hne _ _ ⟨rfl, ?_⟩)))
 exact wpS_pure h
theorem zol (K : Keys prog w A s kf a₀) {st : SortSt} {a m : Nat} {Q : AscSt -> SortSt -> Prop} (hm : m ≤ a₀.size) (ha : 1 ≤ a) (ham : a ≤ m) (hB : TB a₀ st) (hs : Inc kf (arrOf st) a)
  (h : ∀ n, a ≤ n -> n ≤ m -> Inc kf (arrOf st) n -> (n = m ∨ kAt kf (arrOf st) n < kAt kf (arrOf st) (n - 1)) -> Q (none, n) st) : wpS (model prog w) A E s (ascLoop a m) Q st := by
 unfold ascLoop
 refine wpS_forRange (I := fun x c st' => st' = st ∧ c = (none, x) ∧ Inc kf (arrOf st) x) ?_ ?_ ⟨rfl, rfl, hs⟩
 ·rintro x c st' h1 h2 ⟨rfl, rfl, hi⟩
  dsimp only
  refine wpS_bind (zj2 K hB (by lia) (by lia) (by lia) ?_)
  dsimp only
  by_cases hl : kAt kf (arrOf st') x < kAt kf (arrOf st') (x - 1)
  ·rw [decide_eq_true hl, if_pos rfl]
   exact wpS_pure (h x h1 (by lia) hi (.inr hl))
  ·rw [decide_eq_false hl, if_neg Bool.false_ne_true]
   have hg := zi1 hl (K.ne hB (by lia) (by lia) (by lia))
   refine wpS_pure ⟨rfl, rfl, fun i j hij hj => ?_⟩
   by_cases e : j < x
   ·exact hi i j hij e
   ·obtain rfl : j = x := by lia
    by_cases e2 : i = j - 1
    ·subst e2; exact hg
    ·exact List.lt_trans (hi i (j - 1) (by lia) (by lia)) hg
 ·rintro c st' ⟨rfl, rfl, hi⟩
  rw [show max a m = m by lia] at hi ⊢
  exact h m ham (Nat.le_refl _) hi (.inl rfl)
theorem zh1 {xs : Array Keyed} {n : Nat} (hn : n ≤ xs.size) (i : Nat) : kAt kf (mirror xs 0 n ((n - 0) / 2)) i = if i < n then kAt kf xs (n - 1 - i) else kAt kf xs i := by
 have e := getElem?_mirror_all (xs := xs) (i := 0) hn i
 by_cases h : i < n
 ·rw [if_pos ⟨Nat.zero_le _, h⟩] at e
  rw [if_pos h]
  have := zd6 (kf := kf) e
  rw [Nat.zero_add] at this
  exact this
 ·rw [if_neg (fun z => h z.2)] at e
  rw [if_neg h]; exact zd6 e
theorem zsg {st : SortSt} {n : Nat} {Q : Unit -> SortSt -> Prop} (h : Q () (setArr st (mirror (arrOf st) 0 n ((n - 0) / 2)))) : wpS (model prog w) A E s (reverseSlice' 0 n) Q st := by
 rw [reverseSlice'_eq]; exact wpS_modify h
theorem zp8 (K : Keys prog w A s kf a₀) {st : SortSt} {n m : Nat} {Q : Option Nat -> SortSt -> Prop} (hm : m ≤ a₀.size) (h1 : 1 ≤ n) (hnm : n ≤ m) (hB : TB a₀ st) (hs : Dec kf (arrOf st) n)
  (h : ∀ k st', TB a₀ st' -> 1 ≤ k -> k ≤ m -> Inc kf (arrOf st') k -> Q (some k) st') : wpS (model prog w) A E s (tail3 n m) Q st := by
 unfold tail3
 have hB' : TB a₀ (setArr st (mirror (arrOf st) 0 n ((n - 0) / 2))) := hB.arr (mirror_perm _ _ _ _)
 refine wpS_bind (zsg ?_)
 refine wpS_bind (zol K hm h1 hnm hB' (fun i j hij hj => ?_) fun k k1 k2 hk J => wpS_pure (h k _ hB' (by lia) k2 hk))
 show kAt kf (mirror (arrOf st) 0 n ((n - 0) / 2)) i < kAt kf (mirror (arrOf st) 0 n ((n - 0) / 2)) j
 have hz : n ≤ (arrOf st).size := by rw [hB.size]; lia
 rw [zh1 hz, zh1 hz, if_pos (by lia), if_pos hj]
 exact hs _ _ (by lia) (by lia)
theorem zp9 (K : Keys prog w A s kf a₀) {st : SortSt} {n m : Nat} {Q : DescSt -> SortSt -> Prop} (hm : m ≤ a₀.size) (h1 : 1 ≤ n) (hnm : n ≤ m) (hB : TB a₀ st) (hs : Dec kf (arrOf st) n)
  (h : ∀ k, n ≤ k -> k ≤ m -> Dec kf (arrOf st) k -> Q (none, k, 0) st) : wpS (model prog w) A E s (descLoop n m) Q st := by
 unfold descLoop
 refine wpS_forRange (I := fun x c st' => st' = st ∧ c = (none, x, 0) ∧ Dec kf (arrOf st) x) ?_ ?_ ⟨rfl, rfl, hs⟩
 ·rintro x c st' x1 x2 ⟨rfl, rfl, hi⟩
  dsimp only
  refine wpS_bind (zj2 K hB (by lia) (by lia) (by lia) ?_)
  dsimp only
  by_cases hl : kAt kf (arrOf st') x < kAt kf (arrOf st') (x - 1)
  ·rw [decide_eq_true hl, if_pos rfl, if_neg (by decide)]
   refine wpS_pure ⟨rfl, rfl, fun i j hij hj => ?_⟩
   by_cases e : j < x
   ·exact hi i j hij e
   ·obtain rfl : j = x := by lia
    by_cases e2 : i = j - 1
    ·subst e2; exact hl
    ·exact List.lt_trans hl (hi i (j - 1) (by lia) (by lia))
  ·rw [decide_eq_false hl, if_neg Bool.false_ne_true]
   have hg := zi1 hl (K.ne hB (by lia) (by lia) (by lia))
   refine wpS_bind (zj2 K hB (by lia) (by lia) (by lia) ?_)
   dsimp only
   rw [decide_eq_true hg, if_pos rfl]
   exact wpS_pure (h x x1 (by lia) hi)
 ·rintro c st' ⟨rfl, rfl, hi⟩
  rw [show max n m = m by lia] at hi ⊢
  exact h m hnm (Nat.le_refl _) hi
theorem zom (K : Keys prog w A s kf a₀) {st : SortSt} {m : Nat} {Q : Option Nat -> SortSt -> Prop} (hm : m ≤ a₀.size) (h1 : 1 ≤ m) (hB : TB a₀ st)
  (h : ∀ k st', TB a₀ st' -> 1 ≤ k -> k ≤ m -> Inc kf (arrOf st') k -> Q (some k) st') : wpS (model prog w) A E s (countRun' 0 m) Q st := by
 rw [countRun0_eq]
 refine wpS_bind (zol K hm (Nat.le_refl 1) h1 hB (fun i j hij hj => by lia) fun n n1 n2 hn hor => ?_)
 dsimp only
 by_cases e : n = m
 ·rw [if_pos (by simpa using e)]
  exact wpS_pure (h n st hB n1 n2 hn)
 ·rw [if_neg (by simpa using e)]
  have hlt := hor.resolve_left e
  by_cases e2 : n > 1
  ·rw [if_pos e2]
   refine wpS_bind (zj2 K hB (by lia) (by lia) (by lia) ?_)
   dsimp only
   rw [decide_eq_true (hn 0 (n - 1) (by lia) (by lia)), if_pos rfl]
   exact wpS_pure (h n st hB n1 n2 hn)
  ·rw [if_neg e2]
   obtain rfl : n = 1 := by lia
   unfold descPart
   refine wpS_bind (wpS_lift (wpAny_rule ⟨rfl, ?_⟩))
   refine wpS_bind (zp9 K hm (by lia) (by lia) hB (fun i j hij hj => ?_) fun k k1 k2 hk => ?_)
   ·obtain rfl : i = 0 := by lia
    obtain rfl : j = 1 := by lia
    exact hlt
   ·dsimp only
    rw [if_neg (by decide)]
    exact zp8 K hm (by lia) k2 hB hk h
theorem zh2 {xs : Array Keyed} {src d : Nat} (hs : src < xs.size) (hd : d ≤ src) (i : Nat) : kAt kf (bubble xs src d) i = if i = src - d then kAt kf xs src else if src - d < i ∧ i ≤ src then kAt kf xs (i - 1) else kAt kf xs i := by
 have e := getElem?_bubble hs d hd i
 by_cases h1 : i = src - d
 ·rw [if_pos h1] at e ⊢; exact zd6 e
 ·rw [if_neg h1] at e ⊢
  by_cases h2 : src - d < i ∧ i ≤ src
  ·rw [if_pos h2] at e ⊢; exact zd6 e
  ·rw [if_neg h2] at e ⊢; exact zd6 e
end
section
variable {prog : Program} {w : World} {A : Around} {E : Value -> Shared -> Prop} {s : Shared} {a₀ : Array Keyed} {kf : Value -> List Nat}
inductive InsI {β σ : Type} (mkc : Nat -> Nat -> β) (st' : σ) (g : Nat -> List Nat) (k x : Nat) (c : β) (st'' : σ) : Prop
 | mk (l r : Nat) (hst : st'' = st') (hc : c = mkc l r) (h1 : l ≤ r) (h2 : r ≤ k) (h3 : r - l ≤ k - x) (h4 : ∀ i, i < l -> g i < g k) (h5 : ∀ i, r ≤ i -> i < k -> g k < g i)
inductive InsQ {β σ : Type} (mkc : Nat -> Nat -> β) (st' : σ) (g : Nat -> List Nat) (k : Nat) (c : β) (st'' : σ) : Prop
 | mk (l r : Nat) (hst : st'' = st') (hc : c = mkc l r) (h2 : l ≤ k) (h4 : ∀ i, i < l -> g i < g k) (h5 : ∀ i, l ≤ i -> i < k -> g k < g i)
theorem zi2 {l r : Nat} (h : l < r) : l ≤ (l + r) / 2 ∧ (l + r) / 2 < r := by lia
theorem zsh {j k : Nat} (h : 0 < j) (h2 : j ≤ k) : j - 1 < k := Nat.lt_of_lt_of_le (Nat.sub_lt h Nat.one_pos) h2
theorem zu8 {l r k x : Nat} (h : l < r) (h3 : r - l ≤ k - x) : (l + r) / 2 - l ≤ k - (x + 1) := Nat.le_sub_one_of_lt (Nat.lt_of_lt_of_le (Nat.sub_lt_sub_right (zi2 h).1 (zi2 h).2) h3)
theorem zu9 {l r k x : Nat} (h : l < r) (h3 : r - l ≤ k - x) : r - ((l + r) / 2 + 1) ≤ k - (x + 1) := Nat.sub_le_sub_right (Nat.le_trans (Nat.sub_le_sub_left (zi2 h).1 r) h3) 1
theorem zva {l r k : Nat} (h1 : l ≤ r) (h3 : r - l ≤ k - max 0 k) : l = r := by
 rw [Nat.max_eq_right (Nat.zero_le k), Nat.sub_self] at h3
 exact Nat.le_antisymm h1 (Nat.le_of_sub_eq_zero (Nat.le_zero.mp h3))
theorem zsi {g : Nat -> List Nat} {l k i j : Nat} (hl : l ≤ k) (hij : i < j) (hj : j < k + 1) (h4 : ∀ i, i < l -> g i < g k) (h5 : ∀ i, l ≤ i -> i < k -> g k < g i) (hi : ∀ i j, i < j -> j < k -> g i < g j) :
  (if i = l then g k else if l < i ∧ i ≤ k then g (i - 1) else g i) < (if j = l then g k else if l < j ∧ j ≤ k then g (j - 1) else g j) := by
 have hjk := Nat.le_of_lt_succ hj
 by_cases e1 : i = l
 ·subst e1
  rw [if_pos rfl, if_neg (Nat.ne_of_gt hij), if_pos ⟨hij, hjk⟩]
  exact h5 _ (Nat.le_pred_of_lt hij) (zsh (Nat.zero_lt_of_lt hij) hjk)
 ·rw [if_neg e1]
  by_cases e2 : l < i
  ·have e5 := Nat.lt_trans e2 hij
   rw [if_pos ⟨e2, Nat.le_of_lt (Nat.lt_of_lt_of_le hij hjk)⟩, if_neg (Nat.ne_of_gt e5), if_pos ⟨e5, hjk⟩]
   exact hi _ _ (Nat.sub_lt_sub_right (Nat.zero_lt_of_lt e2) hij) (zsh (Nat.zero_lt_of_lt e5) hjk)
  ·have e6 := Nat.lt_of_le_of_ne (Nat.le_of_not_lt e2) e1
   rw [if_neg (fun z => e2 z.1)]
   by_cases e3 : j = l
   ·rw [if_pos e3]; exact h4 i e6
   ·rw [if_neg e3]
    by_cases e4 : l < j
    ·rw [if_pos ⟨e4, hjk⟩]; exact hi _ _ (Nat.lt_of_lt_of_le e6 (Nat.le_pred_of_lt e4)) (zsh (Nat.zero_lt_of_lt e4) hjk)
    ·rw [if_neg (fun z => e4 z.1)]; exact hi _ _ hij (Nat.lt_of_lt_of_le (Nat.lt_of_le_of_ne (Nat.le_of_not_lt e4) e3) hl)
theorem zqa {g : Nat -> List Nat} {k i mid : Nat} (hl : g k < g mid) (hi : ∀ i j, i < j -> j < k -> g i < g j) (g1 : mid ≤ i) (g2 : i < k) : g k < g i := by
 rcases Nat.eq_or_lt_of_le g1 with e | e
 ·exact e ▸ hl
 ·exact List.lt_trans hl (hi _ _ e g2)
theorem zon {g : Nat -> List Nat} {k i mid : Nat} (hl : g mid < g k) (hi : ∀ i j, i < j -> j < k -> g i < g j) (g1 : i < mid + 1) (g2 : mid < k) : g i < g k := by
 rcases Nat.eq_or_lt_of_le (Nat.le_of_lt_succ g1) with e | e
 ·exact e ▸ hl
 ·exact List.lt_trans (hi _ _ e g2) hl
theorem zoo {ok n : Nat} {g : Nat -> List Nat} (hok : ok ≤ n) (hs : ∀ i j, i < j -> j < ok -> g i < g j) : ∀ i j, i < j -> j < min (max ok 1) n -> g i < g j := fun i j hij hj => by
 have h2 := Nat.lt_of_lt_of_le hj (Nat.min_le_left _ _)
 by_cases h1 : ok = 0
 ·subst h1
  exact absurd (Nat.lt_of_lt_of_le hij (Nat.le_of_lt_succ h2)) (Nat.not_lt_zero _)
 ·rw [Nat.max_eq_left (Nat.one_le_iff_ne_zero.mpr h1)] at h2
  exact hs i j hij h2
theorem znc (K : Keys prog w A s kf a₀) {st : SortSt} {n ok : Nat} {Q : Bool -> SortSt -> Prop} (hn : n ≤ a₀.size) (hok : ok ≤ n) (hB : TB a₀ st) (hs : Inc kf (arrOf st) ok)
  (h : ∀ st', TB a₀ st' -> Inc kf (arrOf st') n -> Q true st') : wpS (model prog w) A E s (binarySort' 0 n ok) Q st := by
 rw [binarySort'_eq]
 simp only [Nat.zero_add]
 refine wpS_bind (wpS_mono (wpS_forRange (I := fun k c st' => c = (none, ()) ∧ TB a₀ st' ∧ Inc kf (arrOf st') (min k n)) (Q := fun c st' => c = (none, ()) ∧ TB a₀ st' ∧ Inc kf (arrOf st') n) ?_ ?_ ⟨rfl, hB, zoo hok hs⟩) ?_)
 ·rintro k c st' hk1 hk2 ⟨rfl, hB', hi⟩
  rw [Nat.min_eq_left (Nat.le_of_lt hk2)] at hi
  have hk : k < a₀.size := Nat.lt_of_lt_of_le hk2 hn
  refine wpS_bind (wpS_mono (wpS_forRange (I := InsI (fun l r => (none, l, r)) st' (kAt kf (arrOf st')) k) (Q := InsQ (fun l r => (none, l, r)) st' (kAt kf (arrOf st')) k) ?_ ?_ ⟨0, k, rfl, rfl, Nat.zero_le _, Nat.le_refl _, Nat.le_refl _, fun i hi => absurd hi (Nat.not_lt_zero _), fun i h1 h2 => absurd h2 (Nat.not_lt_of_le h1)⟩) ?_)
  ·rintro x c st'' _ hx ⟨l, r, rfl, rfl, h1, h2, h3, h4, h5⟩
   dsimp only
   by_cases hge : l ≥ r
   ·rw [if_pos hge]
    obtain rfl : l = r := Nat.le_antisymm h1 hge
    exact wpS_pure ⟨l, l, rfl, rfl, h2, h4, h5⟩
   ·rw [if_neg hge]
    have hlr := Nat.lt_of_not_le hge
    obtain ⟨m1, m2⟩ := zi2 hlr
    have m3 := Nat.lt_of_lt_of_le m2 h2
    have m4 := Nat.lt_trans m3 hk
    refine wpS_bind (zj2 K hB' hk m4 (Nat.ne_of_gt m3) ?_)
    dsimp only
    by_cases hl : kAt kf (arrOf st'') k < kAt kf (arrOf st'') ((l + r) / 2)
    ·rw [decide_eq_true hl, if_pos rfl]
     exact wpS_pure ⟨l, (l + r) / 2, rfl, rfl, m1, Nat.le_of_lt m3, zu8 hlr h3, h4, fun i g1 g2 => zqa hl hi g1 g2⟩
    ·rw [decide_eq_false hl, if_neg Bool.false_ne_true]
     have hg := zi1 hl (K.ne hB' hk m4 (Nat.ne_of_gt m3))
     exact wpS_pure ⟨(l + r) / 2 + 1, r, rfl, rfl, m2, h2, zu9 hlr h3, fun i g1 => zon hg hi g1 m3, h5⟩
  ·rintro c st'' ⟨l, r, rfl, rfl, h1, h2, h3, h4, h5⟩
   obtain rfl : l = r := zva h1 h3
   exact ⟨l, l, rfl, rfl, h2, h4, h5⟩
  ·rintro c st'' ⟨l, r, rfl, rfl, h2, h4, h5⟩
   show wpS _ _ _ _ (do moveDown' k l; pure (ForInStep.yield (none, ()))) _ _
   rw [moveDown'_eq]
   refine wpS_bind (wpS_modify (wpS_pure ⟨rfl, hB'.arr (bubble_perm _ _ _), ?_⟩))
   rw [Nat.min_eq_left (Nat.succ_le_of_lt hk2)]
   have hz : k < (arrOf st'').size := by rw [hB'.size]; exact hk
   intro i j hij hj
   show kAt kf (bubble (arrOf st'') k (k - l)) i < kAt kf (bubble (arrOf st'') k (k - l)) j
   rw [zh2 hz (Nat.sub_le _ _), zh2 hz (Nat.sub_le _ _), Nat.sub_sub_self h2]
   exact zsi h2 hij hj h4 h5 hi
 ·rintro c st' ⟨rfl, hB', hi⟩
  rw [Nat.min_eq_right (Nat.le_max_right _ _)] at hi
  exact ⟨rfl, hB', hi⟩
 ·rintro c st' ⟨rfl, hB', hi⟩
  exact wpS_pure (h st' hB' hi)
noncomputable def zq2 (kf : Value -> List Nat) (a₀ : Array Keyed) (st : SortSt) : Prop := (arrOf st).Perm a₀ ∧ failedOf st = none ∧ pendingOf st = #[(0, a₀.size, 0)] ∧ Inc kf (arrOf st) a₀.size
theorem TB.done {st : SortSt} (hB : TB a₀ st) (hs : Inc kf (arrOf st) a₀.size) : zq2 kf a₀ (setPending st ((pendingOf st).push (0, a₀.size, 0))) :=
 ⟨hB.perm, hB.failed, by show (pendingOf st).push _ = _; rw [hB.pend]; rfl, hs⟩
theorem zqb (K : Keys prog w A s kf a₀) {st : SortSt} {Q : Unit -> SortSt -> Prop} (hB : TB a₀ st) (h2 : 2 ≤ a₀.size) (h64 : a₀.size < 64)
  (h : ∀ st', (arrOf st').Perm a₀ -> failedOf st' = none -> Inc kf (arrOf st') a₀.size -> Q () st') : wpS (model prog w) A E s sortRuns' Q st := by
 rw [sortRuns'_eq]
 refine wpS_bind (wpS_get ?_)
 dsimp only
 have hmr : minRun' a₀.size a₀.size 0 = a₀.size := by
  obtain ⟨f, hf⟩ : ∃ f, a₀.size = f + 1 := ⟨a₀.size - 1, by lia⟩
  rw [hf] at h64 ⊢
  rw [minRun'_succ, if_pos h64]
 simp only [hB.size, hmr]
 refine wpS_bind (wpS_mono (wpS_forRange (I := fun x c st' => (x = 0 ∧ c = (none, 0) ∧ TB a₀ st') ∨ (1 ≤ x ∧ c = (none, a₀.size) ∧ zq2 kf a₀ st')) (Q := fun c st' => c = (none, a₀.size) ∧ zq2 kf a₀ st') ?_ ?_ (.inl ⟨rfl, rfl, hB⟩)) ?_)
 ·rintro x c st' _ hx (⟨rfl, rfl, hB'⟩ | ⟨hx1, rfl, hD⟩)
  ·dsimp only
   rw [if_neg (by lia)]
   simp only [Nat.sub_zero, Nat.min_self, Nat.zero_add]
   refine wpS_bind (zom K (Nat.le_refl _) (by lia) hB' fun m st2 hB2 m1 m2 hs2 => ?_)
   have fin : ∀ st3, TB a₀ st3 -> Inc kf (arrOf st3) a₀.size -> (pendingOf st3).back? = none ∧ zq2 kf a₀ (setPending st3 ((pendingOf st3).push (0, a₀.size, 0))) := fun st3 hB3 hs3 => ⟨by rw [hB3.pend]; rfl, hB3.done hs3⟩
   dsimp only
   by_cases hlt : m < a₀.size
   ·rw [if_pos hlt]
    refine wpS_bind (wpS_lift (wpAny_rule ⟨rfl, ?_⟩))
    refine wpS_bind (znc K (Nat.le_refl _) m2 hB2 hs2 fun st3 hB3 hs3 => ?_)
    simp only [Bool.not_true, Bool.false_eq_true, if_false]
    refine wpS_bind (wpS_get ?_)
    rw [(fin st3 hB3 hs3).1]
    dsimp only
    exact wpS_bind (wpS_modify (wpS_pure (.inr ⟨by lia, rfl, (fin st3 hB3 hs3).2⟩)))
   ·rw [if_neg hlt]
    obtain rfl : m = a₀.size := by lia
    refine wpS_bind (wpS_get ?_)
    rw [(fin st2 hB2 hs2).1]
    dsimp only
    exact wpS_bind (wpS_modify (wpS_pure (.inr ⟨by lia, rfl, (fin st2 hB2 hs2).2⟩)))
  ·dsimp only
   rw [if_pos (Nat.le_refl _)]
   exact wpS_pure ⟨rfl, hD⟩
 ·rintro c st' (⟨hx, _, _⟩ | ⟨_, hc, hD⟩)
  ·lia
  ·exact ⟨hc, hD⟩
 ·rintro c st' ⟨rfl, hD⟩
  dsimp only
  refine wpS_bind (wpS_mono (wpS_forRange (I := fun J c st'' => st'' = st' ∧ c = (none, ())) (Q := fun c st'' => st'' = st' ∧ c = (none, ())) ?_ (fun J J hh => hh) ⟨rfl, rfl⟩) ?_)
  ·rintro x c st'' _ _ ⟨rfl, rfl⟩
   refine wpS_bind (wpS_get ?_)
   rw [if_pos (by rw [hD.2.2.1]; exact Nat.le_refl 1)]
   exact wpS_pure ⟨rfl, rfl⟩
  ·rintro c st'' ⟨rfl, rfl⟩
   exact wpS_pure (h _ hD.1 hD.2.1 hD.2.2.2)
end
noncomputable def TupS (h : Heap) (v : Value) (x : Str) : Prop := ∃ a t r n, v = .ref a ∧ h.get? a = some (zd9 (Value.str x t :: r).toArray n)
theorem TupS.keeps {h h' : Heap} {v : Value} {x : Str} (k : ∀ b o, h.get? b = some o -> h'.get? b = some o) (e : TupS h v x) : TupS h' v x :=
 let ⟨a, t, r, n, e1, e2⟩ := e; ⟨a, t, r, n, e1, k _ _ e2⟩
noncomputable def zkk (h : Heap) (vs : List Value) : Prop := ∀ v ∈ vs, ∃ x, TupS h v x
section
variable {prog : Program} {w : World} {A : Around} {E : Value -> Shared -> Prop} {s : Shared}
theorem zop {v : Value} {x : Str} {Q : Option Value -> Shared -> Prop} (e : TupS s.heap v x) (h : ∀ t, Q (some (.str x t)) s) : wpAny (model prog w) A (firstOfTuple' v) Q E s := by
 obtain ⟨a, t, r, n, rfl, e2⟩ := e
 refine wpAny_bind (m := typeOf (.ref a)) (wpAny_typeOf (T := "tuple") ⟨_, e2, rfl⟩ ?_)
 rw [if_neg (by decide)]
 refine wpAny_bind (m := Builtin.List.listItems (.ref a)) (listItems_at e2 rfl (wpAny_pure (h t)))
theorem zh3 : ∀ {vs : List Value} {Q : List (Option Value) -> Shared -> Prop}, zkk s.heap vs -> (∀ fs : List Value, (∀ f ∈ fs, ∃ x t, f = .str x t) -> fs.length = vs.length -> Q (fs.map some) s) -> wpAny (model prog w) A (vs.mapM firstOfTuple') Q E s
 | [], Q, _, h => by
  rw [List.mapM_nil]; exact wpAny_pure (h [] (fun J z => nomatch z) rfl)
 | v :: vs, Q, e, h => by
  rw [List.mapM_cons]
  obtain ⟨x, hx⟩ := e v (.head _)
  refine wpAny_bind (zop hx fun t => ?_)
  refine wpAny_bind (zh3 (fun u hu => e u (.tail _ hu)) fun fs h1 h2 => wpAny_pure ?_)
  exact h (.str x t :: fs) (fun f hf => by
   cases hf with
   | head _ => exact ⟨x, t, rfl⟩
   | tail _ hf => exact h1 f hf) (by simp [h2])
theorem zh4 : ∀ {fs : List Value} {Q : List Value -> Shared -> Prop}, (∀ f ∈ fs, ∃ x t, f = .str x t) -> Q (fs.map fun J => .type "str") s -> wpAny (model prog w) A (fs.mapM typeOf) Q E s
 | [], Q, _, h => by rw [List.mapM_nil]; exact wpAny_pure h
 | f :: fs, Q, e, h => by
  rw [List.mapM_cons]
  obtain ⟨x, t, rfl⟩ := e _ (.head _)
  refine wpAny_bind (wpAny_typeOf (T := "str") (typeIs_str _ _ _) ?_)
  exact wpAny_bind (zh4 (fun u hu => e u (.tail _ hu)) (wpAny_pure h))
theorem zoq {vs : List Value} {Q : SortKind -> Shared -> Prop} (hn : vs ≠ []) (e : zkk s.heap vs) (h : Q (tuples' true) s) : wpAny (model prog w) A (keyKind' vs.toArray) Q E s := by
 rw [keyKind'_eq, List.mapM_toArray]
 rw [map_eq_pure_bind, bind_assoc]
 refine wpAny_bind (zh3 e fun fs h1 h2 => ?_)
 rw [pure_bind]
 have ha : (fs.map some).toArray.all (fun x => x.isSome) = true := by
  simp
 rw [if_pos ha]
 refine wpAny_bind (wpAny_rule ?_)
 have hf : (fs.map some).toArray.filterMap id = fs.toArray := by
  rw [List.filterMap_toArray, List.filterMap_map]
  congr 1
  simp
 rw [hf, oneTypeOnly'_eq, List.mapM_toArray, map_eq_pure_bind, bind_assoc, bind_assoc]
 refine wpAny_bind (zh4 h1 ?_)
 rw [pure_bind]
 cases fs with
 | nil => cases vs with
  | nil => exact absurd rfl hn
  | cons _ _ => cases h2
 | cons f fs =>
  have hall : ((f :: fs).map fun J => Value.type "str").toArray.all (fun x => x == Value.type "str") = true := by
   simp only [List.all_toArray, List.all_map, List.all_eq_true]
   intro _ _; rfl
  have h0 : ((f :: fs).map fun J => Value.type "str").toArray[0]? = some (Value.type "str") := by simp
  rw [h0]
  dsimp only
  rw [hall, if_pos rfl, pure_bind]
  exact wpAny_pure h
theorem zsj {v u : Value} {x y : Str} {Q : Bool -> Shared -> Prop} (hv : TupS s.heap v x) (hu : TupS s.heap u y) (hne : x ≠ y) (h : Q (decide (x.cps.toList < y.cps.toList)) s) : wpAny (model prog w) A (keyLt' (tuples' true) v u) Q E s := by
 obtain ⟨a, t, r, n, rfl, e1⟩ := hv
 obtain ⟨b, t', r', n', rfl, e2⟩ := hu
 refine wpAny_bind (m := Builtin.List.listItems (.ref a)) (listItems_at e1 rfl ?_)
 refine wpAny_bind (m := Builtin.List.listItems (.ref b)) (listItems_at e2 rfl ?_)
 refine wpAny_bind ?_
 show wpAny _ _ (forIn (((Value.str x t, Value.str y t'), 0) :: List.zipIdx (r.zip r') 1) _ _) _ _ _
 rw [List.forIn_cons]
 refine wpAny_bind ?_
 refine wpAny_bind (m := eqBool (.str x t) (.str y t')) (wpAny_eqBool_str ?_)
 rw [decide_eq_false hne]
 refine wpAny_bind (m := oneLt' true (.str x t) (.str y t')) (oneLt_str ?_)
 exact wpAny_pure (wpAny_pure (wpAny_pure h))
end
theorem TupS.inj {h : Heap} {v : Value} {x y : Str} (a : TupS h v x) (b : TupS h v y) : x = y := by
 obtain ⟨a, t, r, n, rfl, e1⟩ := a
 obtain ⟨b, t', r', n', e, e2⟩ := b
 injection e with e; subst e
 rw [e1] at e2
 injection e2 with e2
 injection e2 with _ _ e2
 injection e2 with e2
 have := congrArg Array.toList e2
 simp at this
 exact this.1.1
open Classical in
noncomputable def kfOf (h : Heap) (v : Value) : List Nat := if e : ∃ x, TupS h v x then e.choose.cps.toList else []
theorem zha {h : Heap} {v : Value} {x : Str} (e : TupS h v x) : kfOf h v = x.cps.toList := by
 unfold kfOf
 rw [dif_pos ⟨x, e⟩]
 rw [(Exists.choose_spec (⟨x, e⟩ : ∃ x, TupS h v x)).inj e]
section
variable {prog : Program} {w : World} {A : Around} {E : Value -> Shared -> Prop} {s : Shared}
theorem zor {s₀ : Shared} {vs : List Value} (e : zkk s₀.heap vs) (k : ∀ v x, TupS s₀.heap v x -> TupS s.heap v x) (hd : (vs.map (kfOf s₀.heap)).Nodup) : Keys prog w A s (kfOf s₀.heap) (pairsOf vs) where
 nd := by
  rw [pairsOf_toList]
  have : (vs.zip vs).map (fun p => kfOf s₀.heap p.1) = ((vs.zip vs).map Prod.fst).map (kfOf s₀.heap) := by rw [List.map_map]; rfl
  rw [this, List.map_fst_zip (Nat.le_refl _)]; exact hd
 lt := fun p hp q hq hne E Q h => by
  rw [pairsOf_toList] at hp hq
  obtain ⟨x, hx⟩ := e _ (mem_zip_self hp).2
  obtain ⟨y, hy⟩ := e _ (mem_zip_self hq).2
  rw [zha hx, zha hy] at h hne
  exact zsj (k _ _ hx) (k _ _ hy) (fun z => hne (by rw [z])) h
theorem zos {a : Addr} {vs : List Value} {n : Nat} {P : Fin -> Shared -> Prop} (ho : s.heap.get? a = some (seqObj "list" vs.toArray n)) (e : zkk s.heap vs) (hd : (vs.map (kfOf s.heap)).Nodup) (h64 : vs.length < 64)
  (h : ∀ out : List Value, out.Perm vs -> out.Pairwise (fun x y => kfOf s.heap x < kfOf s.heap y) -> P (.done (.ret .none)) { s with heap := sortedHeap s.heap a vs out.toArray }) :
  wpAny (model prog w) A (Builtin.«list.sort» ⟨[.ref a], []⟩) P E s := by
 rw [list_sort_plain]
 have ha : a < s.heap.objs.size := Heap.lt_size ho
 refine wpAny_bind (listItems_at ho rfl ?_)
 refine wpAny_bind (listUpdate_at ho rfl ?_ (by rw [List.size_toArray, sizeLine_eq]; omega))
 obtain ⟨e1, ho1⟩ : ∃ e1, (s.heap.update a (Obj.mapSeq fun J => #[])).get? a = some (seqObj "list" #[] e1) := ⟨_, get?_update_seq ho (fun J => #[])⟩
 refine wpAny_bind (seqEpoch_at ho1 rfl ?_)
 refine wpAny_bind (wpAny_newTuple ?_)
 refine wpAny_bind (wpAny_newList ?_)
 refine wpAny_holding ?_
 have ho6 : (((s.heap.update a (Obj.mapSeq fun J => #[])).push (seqObj "tuple" vs.toArray 0)).push (seqObj "list" #[] 0)).get? a = some (seqObj "list" #[] e1) := Heap.get?_push_of_some _ (Heap.get?_push_of_some _ ho1)
 generalize hs6 : ({ s with heap := ((s.heap.update a (Obj.mapSeq fun J => #[])).push (seqObj "tuple" vs.toArray 0)).push (seqObj "list" #[] 0) } : Shared) = s6
 have hk : ∀ v x, TupS s.heap v x -> TupS s6.heap v x := by
  rintro v x ⟨b, t, r, m, rfl, e2⟩
  subst hs6
  refine ⟨b, t, r, m, rfl, Heap.get?_push_of_some _ (Heap.get?_push_of_some _ ((Heap.get?_update_other _ _ ?_).trans e2))⟩
  rintro rfl
  rw [ho] at e2
  have e3 := congrArg Obj.cls (Option.some.inj e2)
  injection e3 with e3
  exact absurd e3 (by decide)
 have hheap : s6.heap = ((s.heap.update a (Obj.mapSeq fun J => #[])).push (seqObj "tuple" vs.toArray 0)).push (seqObj "list" #[] 0) := by subst hs6; rfl
 rw [← hheap] at ho6
 have K : Keys prog w A s6 (kfOf s.heap) (pairsOf vs) := zor e hk hd
 have fin : ∀ st' : SortSt, (arrOf st').Perm (pairsOf vs) -> failedOf st' = none -> Inc (kfOf s.heap) (arrOf st') (pairsOf vs).size →
   wpAny (model prog w) A (do
    let touched := (← seqEpoch a) != e1
    Builtin.List.listUpdate (.ref a) fun J => (arrOf st').map (·.2)
    if let some e := failedOf st' then rule "list.sort.comparison-raised"; throw e
    if touched then rule "list.sort.modified"; raiseError "ValueError" "list modified during sort"
    ret .none) P E s6 := by
  intro st' hp hf hi
  have hpl := Array.perm_iff_toList_perm.mp hp
  rw [pairsOf_toList] at hpl
  have hsz : (arrOf st').size = vs.length := hp.size_eq.trans (pairsOf_size _)
  refine wpAny_bind (seqEpoch_at ho6 rfl ?_)
  refine wpAny_bind (listUpdate_at ho6 rfl ?_ (by rw [sizeLine_eq]; exact Nat.zero_le _) (by rw [Array.size_map, hsz, sizeLine_eq]; omega))
  rw [hf]
  simp only [bne_self_eq_false, Bool.false_eq_true, if_false]
  refine wpAny_pure ?_
  have hmem : ∀ p ∈ (arrOf st').toList, p.1 = p.2 := fun p hp' => (mem_zip_self (hpl.mem_iff.mp hp')).1
  have h1 := h ((arrOf st').toList.map (·.2)) (by
   have := hpl.map Prod.snd
   rwa [List.map_snd_zip (Nat.le_refl _)] at this) (by
   rw [List.pairwise_iff_getElem]
   intro i j h1 h2 hij
   simp only [List.length_map, Array.length_toList] at h1 h2
   have := hi i j hij (by rw [pairsOf_size, ← hsz]; exact h2)
   unfold kAt at this
   rw [getElem?_pos _ i h1, getElem?_pos _ j h2] at this
   simp only [List.getElem_map, Array.getElem_toList]
   rw [← hmem _ (Array.getElem_mem_toList h1), ← hmem _ (Array.getElem_mem_toList h2)]
   exact this)
  subst hs6
  have e3 : ((arrOf st').toList.map (·.2)).toArray = (arrOf st').map (·.2) := by
   apply Array.toList_inj.mp; simp
  rw [e3] at h1
  exact h1
 have hsz : vs.toArray.size = vs.length := by simp
 by_cases h2 : vs.toArray.size < 2
 ·rw [if_pos h2, if_pos h2]
  refine wpAny_bind (wpAny_pure ?_)
  dsimp only
  rw [StateT.run_pure]
  refine wpAny_bind (wpAny_pure ?_)
  dsimp only
  exact fin (SortSt.mk' general' (vs.toArray.zip vs.toArray) #[] 7 none) (Array.Perm.refl _) rfl (fun i j hij hj => by rw [pairsOf_size] at hj; omega)
 ·rw [if_neg h2, if_neg h2]
  refine wpAny_bind (zoq (fun z => by subst z; exact h2 (by decide)) (fun v hv => let ⟨x, hx⟩ := e v hv; ⟨x, hk _ _ hx⟩) ?_)
  refine wpAny_bind (wpAny_mono (zqb (a₀ := pairsOf vs) K (st := SortSt.mk' (tuples' true) (vs.toArray.zip vs.toArray) #[] 7 none)
   (Q := fun J st' => (arrOf st').Perm (pairsOf vs) ∧ failedOf st' = none ∧ Inc (kfOf s.heap) (arrOf st') (pairsOf vs).size) ⟨Array.Perm.refl _, rfl, rfl, rfl⟩ (by rw [pairsOf_size]; omega) (by rw [pairsOf_size]; exact h64) fun st' a1 a2 a3 => ⟨a1, a2, a3⟩) ?_ fun J J e => e)
  rintro ⟨⟨⟩, st'⟩ s' ⟨rfl, hp, hf, hs⟩
  exact fin st' hp hf hs
end
section
variable {prog : Program} {w : World} {A : Around} {E : Value -> Shared -> Prop} {s : Shared}
theorem zqc {s' : Shared} {vs : List Value} (e : zkk s.heap vs) (k : ∀ b o, s.heap.get? b = some o -> s'.heap.get? b = some o) : ∀ v ∈ vs, kfOf s'.heap v = kfOf s.heap v := fun v hv => by
 obtain ⟨x, hx⟩ := e v hv
 rw [zha hx, zha (hx.keeps k)]
theorem zlb {l : Addr} {vs : List Value} {Q : Value -> Shared -> Prop} (hl : s.heap.IsList l vs.toArray) (e : zkk s.heap vs) (hd : (vs.map (kfOf s.heap)).Nodup) (h64 : vs.length < 64)
  (h : ∀ out : List Value, out.Perm vs -> out.Pairwise (fun x y => kfOf s.heap x < kfOf s.heap y) -> Q (.ref (s.heap.objs.size + 1)) { s with heap := sortedAll s.heap vs out.toArray }) :
  wpAny (model prog w) A (call (.builtin "sorted") [.ref l]) Q E s := by
 refine Calls.call_function_entry kind_sorted plain_sorted entry_sorted (args_sorted1 _) ?_
 unfold Builtin.«sorted»
 refine wpAny_bind (m := checkCount "sorted" 1 1 _) (wpAny_pure ?_)
 refine wpAny_bind (collect_list hl ?_)
 refine wpAny_bind (wpAny_newList ?_)
 have hsz : ((s.heap.push (seqObj "list" #[] 0)).update s.heap.objs.size (Obj.mapSeq (· ++ vs.toArray))).objs.size = s.heap.objs.size + 1 := by
  rw [Heap.size_update, size_push']
 have hoL : (((s.heap.push (seqObj "list" #[] 0)).update s.heap.objs.size (Obj.mapSeq (· ++ vs.toArray))).push (seqObj "list" vs.toArray 0)).get? (s.heap.objs.size + 1) = some (seqObj "list" vs.toArray 0) := by
  rw [← hsz]; exact Heap.get?_push_size _ rfl
 show wpAny _ _ _ _ _ { s with heap := ((s.heap.push (seqObj "list" #[] 0)).update s.heap.objs.size (Obj.mapSeq (· ++ vs.toArray))).push (seqObj "list" vs.toArray 0) }
 rw [hsz]
 generalize hs6 : ({ s with heap := ((s.heap.push (seqObj "list" #[] 0)).update s.heap.objs.size (Obj.mapSeq (· ++ vs.toArray))).push (seqObj "list" vs.toArray 0) } : Shared) = s6
 have hk : ∀ b o, s.heap.get? b = some o -> s6.heap.get? b = some o := fun b o q => by
  subst hs6
  refine Heap.get?_push_of_some _ ((Heap.get?_update_other _ _ ?_).trans (Heap.get?_push_of_some _ q))
  exact Nat.ne_of_gt (Heap.lt_size q)
 have hheap : s6.heap = ((s.heap.push (seqObj "list" #[] 0)).update s.heap.objs.size (Obj.mapSeq (· ++ vs.toArray))).push (seqObj "list" vs.toArray 0) := by subst hs6; rfl
 rw [← hheap] at hoL
 have e6 : zkk s6.heap vs := fun v hv => let ⟨x, hx⟩ := e v hv; ⟨x, hx.keeps hk⟩
 have key := zqc (s := s) (s' := s6) e hk
 refine wpAny_bind (wpAny_holding (wpAny_call_entry slot_list_sort ⟨_, hoL, rfl⟩ entry_list_sort (zos hoL e6 (by rw [List.map_congr_left key]; exact hd) h64 fun out a1 a2 => ⟨_, rfl, ?_⟩) (args_list_sort _)))
 refine wpAny_pure ⟨_, rfl, ?_⟩
 have h1 := h out a1 (List.Pairwise.imp_of_mem (fun {x y} hx hy q => by rw [← key x (a1.mem_iff.mp hx), ← key y (a1.mem_iff.mp hy)]; exact q) a2)
 subst hs6
 exact h1
end
section
variable {F : Fx} {n : Nat} {loc : Loc} {H : Hp}
noncomputable def tupV (p : Str × List V) : V := .tup (.str p.1 :: p.2)
theorem zad.perm {α : Type} {B : Keep} {f : α -> V} {vs out : List Value} (hp : vs.Perm out) : ∀ {ps : List α}, zad B vs (ps.map f) -> ∃ ps' : List α, ps'.Perm ps ∧ zad B out (ps'.map f) := by
 induction hp with
 | nil => intro ps r; exact ⟨ps, .refl _, r⟩
 | cons v _ ih =>
  intro ps r
  cases ps with
  | nil => cases r
  | cons p ps =>
   cases r with | cons a r => ?_
   obtain ⟨ps', h1, h2⟩ := ih r
   exact ⟨p :: ps', h1.cons p, .cons a h2⟩
 | swap v u l =>
  intro ps r
  cases ps with
  | nil => cases r
  | cons p ps =>
   cases r with | cons a r => ?_
   cases ps with
   | nil => cases r
   | cons q ps =>
    cases r with | cons b r => ?_
    exact ⟨q :: p :: ps, .swap _ _ _, .cons b (.cons a r)⟩
 | trans _ _ ih1 ih2 =>
  intro ps r
  obtain ⟨p1, h1, r1⟩ := ih1 r
  obtain ⟨p2, h2, r2⟩ := ih2 r1
  exact ⟨p2, h2.trans h1, r2⟩
theorem zsk {B : Keep} {s : Shared} (R : FRel F B loc H s) {v : Value} {p : Str × List V} (r : RelV B v (tupV p)) : TupS s.heap v p.1 := by
 unfold tupV at r
 obtain ⟨a, items, m, rfl, hb, hr⟩ := r.tI
 obtain ⟨l⟩ := items
 obtain ⟨_, _, rfl, r1, r2⟩ := hr.cI
 obtain ⟨t, rfl, hk⟩ := r1.sI
 exact ⟨a, t, _, m, rfl, R.keep _ _ hb⟩
theorem zi3 {B : Keep} {s : Shared} (R : FRel F B loc H s) : ∀ {vs : List Value} {ps : List (Str × List V)}, zad B vs (ps.map tupV) -> zkk s.heap vs ∧ vs.map (kfOf s.heap) = ps.map fun p => p.1.cps.toList
 | _, [], r => by obtain rfl := r.eI; exact ⟨(fun J h => nomatch h), rfl⟩
 | _, p :: ps, r => by
  obtain ⟨_, _, rfl, a, r⟩ := r.cI
  obtain ⟨h1, h2⟩ := zi3 R r
  have h3 := zsk R a
  refine ⟨fun v hv => ?_, ?_⟩
  ·cases hv with
   | head _ => exact ⟨_, h3⟩
   | tail _ hv => exact h1 v hv
  ·rw [List.map_cons, List.map_cons, h2, zha h3]
theorem zj3 {X : V} {ps : List (Str × List V)} {Q : V -> Loc -> Hp -> Prop} (e : asL H X = some (ps.map tupV)) (hd : (ps.map (·.1)).Nodup) (hz : ps.length < 64)
  (q : ∀ ps' : List (Str × List V), ps'.Perm ps -> ps'.Pairwise (fun a b => a.1.cps.toList < b.1.cps.toList) -> Q (.list (ps'.map tupV)) loc H) : Call F (.raw (.builtin "sorted")) [X] loc H Q := fun B s v vs R rv rvs => by
 obtain rfl := rv.wI
 obtain ⟨_, rfl, ra⟩ := rvs.c1
 obtain ⟨l, items, m, rfl, hl, hr⟩ := zcb R ra e
 obtain ⟨h1, h2⟩ := zi3 R hr
 have hlen := hr.length
 rw [List.length_map] at hlen
 refine zlb (vs := items.toList) (by rw [Array.toArray_toList]; exact hl.isList) h1 (by
  rw [h2]
  have : ps.map (fun p => p.1.cps.toList) = (ps.map (·.1)).map fun x => x.cps.toList := by rw [List.map_map]; rfl
  rw [this]
  refine List.Pairwise.map _ (fun a b hab hc => hab ?_) hd
  obtain ⟨a⟩ := a
  obtain ⟨b⟩ := b
  exact congrArg Str.mk (Array.toList_inj.mp hc)) (by rw [hlen]; exact hz) fun out a1 a2 => ?_
 obtain ⟨ps', p1, p2⟩ := zad.perm a1.symm hr
 obtain ⟨_, p3⟩ := zi3 R p2
 obtain ⟨ep, hat⟩ := sortedAll_at s.heap items.toList out.toArray
 refine zex (P := Post F RelV B Q) (vs := out) (s' := { s with heap := sortedAll s.heap items.toList out.toArray }) (k := ep) R p2 (Nat.le_succ _) (fun b o hb => sortedAll_old hb) hat rfl rfl fun B' le' r' R' => ?_
 refine (Post.pure r' R' (q ps' p1 ?_)).lift le'
 have h4 : (out.map (kfOf s.heap)).Pairwise (· < ·) := List.pairwise_map.mpr a2
 rw [p3] at h4
 exact List.pairwise_map.mp h4
end
section
variable {cg cr : Addr} {H : Hp} {g : GA} {t : GT}
theorem GrOk.setS (h : GrOk cg cr H g t) (S : (Str -> Bool) × Nat) : GrOk cg cr (H.aS g.ups S) g { t with ups := S } :=
 ⟨h.I, h.fs, h.nI, h.nD, h.al, h.ps, h.pm, h.tT.keep rfl (fun J J => rfl), h.tN.keep rfl (fun J J => rfl), h.tR.keep rfl (fun J J => rfl), h.fst, h.fol, h.pr, zac _ _ _, h.gn, h.nd, h.na, h.kT, h.kN, h.kR⟩
theorem GrOk.pr_ne (h : GrOk cg cr H g t) : ∀ a ∈ [g.d, g.nd, g.al, g.pn, g.ts, g.nts, g.fst, g.fol], a ≠ g.pr := by
 have := h.nd
 unfold GA.dicts at this
 rw [show [g.d, g.nd, g.al, g.pn, g.ts, g.nts, g.fst, g.fol, g.pr] = [g.d, g.nd, g.al, g.pn, g.ts, g.nts, g.fst, g.fol] ++ [g.pr] from rfl, List.nodup_append] at this
 exact fun a ha => this.2.2 a ha _ (List.mem_singleton.mpr rfl)
theorem GrOk.setPr (h : GrOk cg cr H g t) (pr : List (Str × V)) : GrOk cg cr (H.aD g.pr pr) g { t with pr := pr } := by
 have ne := h.pr_ne
 have k : ∀ a ∈ [g.d, g.nd, g.al, g.pn, g.ts, g.nts, g.fst, g.fol], up H.D g.pr pr a = H.D a := fun a ha => zak (ne a ha)
 obtain ⟨fs, f1, f2⟩ := h.fs
 obtain ⟨ns, n1, n2⟩ := h.nD
 exact ⟨h.I, ⟨fs, (k _ (by simp)).trans f1, f2⟩, h.nI, ⟨ns, (k _ (by simp)).trans n1, n2⟩, (k _ (by simp)).trans h.al, h.ps, h.pm, h.tT.keep (k _ (by simp)) (fun J J => rfl), h.tN.keep (k _ (by simp)) (fun J J => rfl), h.tR.keep (k _ (by simp)) (fun J J => rfl),
  (k _ (by simp)).trans h.fst, (k _ (by simp)).trans h.fol, zac _ _ _, h.ups, h.gn, h.nd, h.na, h.kT, h.kN, h.kR⟩
theorem GrOk.d_ne (h : GrOk cg cr H g t) : ∀ a ∈ [g.nd, g.al, g.pn, g.ts, g.nts, g.fst, g.fol, g.pr], a ≠ g.d := by
 have := h.nd
 unfold GA.dicts at this
 rw [List.nodup_cons] at this
 exact fun a ha z => this.1 (z ▸ ha)
theorem GrOk.setStart (h : GrOk cg cr H g t) {fs fs' : List (Str × V)} {s : V} (e : H.D g.d = some fs) (hf : Fld fs g t.start) (p : Put fs "Start" s fs') (hl : fs'.length ≤ 20) : GrOk cg cr (H.aD g.d fs') g { t with start := s } := by
 have k : ∀ a ∈ [g.nd, g.al, g.pn, g.ts, g.nts, g.fst, g.fol, g.pr], up H.D g.d fs' a = H.D a := fun a ha => zak (h.d_ne a ha)
 obtain ⟨ns, n1, n2⟩ := h.nD
 exact ⟨h.I, ⟨fs', zac _ _ _, ⟨hl, p.old hf.names, p.old hf.prods, p.old hf.pn, p.old hf.pm, p.old hf.ts, p.old hf.nts, p.old hf.fst, p.old hf.fol, p.old hf.pr, p.old hf.ups, p.here, fun x hx => (p.there x (fun z => hx (by rw [z]; decide))).trans (hf.no x hx)⟩⟩, h.nI, ⟨ns, (k _ (by simp)).trans n1, n2⟩, (k _ (by simp)).trans h.al, h.ps, h.pm,
  h.tT.keep (k _ (by simp)) (fun J J => rfl), h.tN.keep (k _ (by simp)) (fun J J => rfl), h.tR.keep (k _ (by simp)) (fun J J => rfl), (k _ (by simp)).trans h.fst, (k _ (by simp)).trans h.fol, (k _ (by simp)).trans h.pr, h.ups, h.gn, h.nd, h.na, h.kT, h.kN, h.kR⟩
theorem GrOk.upL (h : GrOk cg cr H g t) {a : Addr} (hf : H.Fresh a) (xs : List V) : GrOk cg cr (H.aL a xs) g t :=
 h.keep (fun b hb => zak (fun z => h.freshL hf (z ▸ hb))) (fun J J => rfl) rfl rfl rfl rfl h.gn
theorem zqd {fs : List (Str × V)} {k : Str} {x y : V} (h : dget fs k = some y) : (dput fs k x).length = fs.length := by
 unfold dput
 rw [if_pos, List.length_map]
 unfold dget at h
 cases e : fs.find? (fun kv => kv.1 = k) with
 | none => rw [e] at h; cases h
 | some p => exact List.any_eq_true.mpr ⟨p, List.mem_of_find?_eq_some e, List.find?_some (p := fun kv : Str × V => decide (kv.1 = k)) e⟩
theorem GrOk.upD (h : GrOk cg cr H g t) {a : Addr} (hf : H.Fresh a) (xs : List (Str × V)) : GrOk cg cr (H.aD a xs) g t :=
 h.keep (fun J J => rfl) (fun b hb => zak (fun z => h.freshD hf (z ▸ hb))) rfl rfl rfl rfl h.gn
end
section
variable {F : Fx} {n : Nat} {loc : Loc} {H : Hp}
theorem zqe {st : List Stmt} {ca a : Addr} {xs : List V} {Q : Fl -> Loc -> Hp -> Prop} (ec : H.C ca = some (some (.ref a))) (el : H.L a = some xs) (h : WSs F st loc ((H.uL a).aC ca (some (.list xs))) Q) : WSs F st loc H Q := fun B s R => by
 obtain ⟨B', le, R', r⟩ := R.freezeL el
 obtain ⟨o, v, ho, hd, hr⟩ := (R'.own ca).c _ (show ((H.uL a) : Hp).C ca = _ from ec)
 have hv : v = some (.ref a) := by
  cases v with
  | none => exact hr.elim
  | some v =>
   have hr' : RelV B' v (.ref a) := hr
   obtain rfl := hr'.rI; rfl
 subst hv
 have R2 := R'.setC (s' := s) (ov' := some (.list xs)) ec (fun J J J e => e) ho hd r rfl rfl
 exact PW.lift le (h B' s R2)
end
section
variable {F : Fx} {n : Nat} {loc : Loc} {H : Hp} {sv' : List (Addr × Obj)}
theorem zcz {st : Stmt} {rest : List Stmt} {Q : Fl -> Loc -> Hp -> Prop} (M : Loc -> Hp -> Prop) (h : ∀ Q', Bk M (fun J J J => False) Q' -> WS F st loc H Q') (k : ∀ l H, M l H -> WSsx F sv' rest l H Q) : WSsx F sv' (st :: rest) loc H Q :=
 zcl (h (fun f l1 H1 => f = .next ∧ WSsx F sv' rest l1 H1 Q) ⟨fun m => ⟨rfl, k _ _ m⟩, fun x => x.elim, fun x => x.elim, fun x => x.elim⟩)
theorem zfe {st : List Stmt} {ca a : Addr} {xs : List V} {Q : Fl -> Loc -> Hp -> Prop} (ec : H.C ca = some (some (.ref a))) (el : H.L a = some xs) (h : WSsx F sv' st loc ((H.uL a).aC ca (some (.list xs))) Q) : WSsx F sv' st loc H Q := fun B s R => by
 obtain ⟨B', le, R', r⟩ := R.freezeL el
 obtain ⟨o, v, ho, hd, hr⟩ := (R'.own ca).c _ (show ((H.uL a) : Hp).C ca = _ from ec)
 have hv : v = some (.ref a) := by
  cases v with
  | none => exact hr.elim
  | some v =>
   have hr' : RelV B' v (.ref a) := hr
   obtain rfl := hr'.rI; rfl
 subst hv
 have R2 := R'.setC (s' := s) (ov' := some (.list xs)) ec (fun J J J e => e) ho hd r rfl rfl
 exact wpAny_mono (h B' s R2) (fun J J p => p.lift le) fun J J x => x
theorem zc4 {st : List Stmt} {loc' : Loc} {H' : Hp} {Q : Fl -> Loc -> Hp -> Prop} (h : WSsx F sv' st loc' H' Q) (h1 : zap loc' loc) (h2 : H'.Sub H) : WSsx F sv' st loc H Q := fun B s R => h B s (R.weak h2 h1)
structure zba (H : Hp) (L : Nat) (os : List (Option V)) : Prop where
 at_ : ∀ i o, os[i]? = some o -> zb3 H (L + 1 + i) o
section
variable {L : Nat} {os : List (Option V)}
theorem zba.get (h : zba H L os) {i : Nat} {o : Option V} (e : os[i]? = some o) : H.C (L + 1 + i) = some o := (h.at_ i o e).C
theorem zb3.setC {c c' : Addr} {o o' : Option V} (h : zb3 H c o) (hn : c ≠ c') : zb3 (H.aC c' o') c o := ⟨(zak hn).trans h.C, h.L, h.D, h.P, h.S⟩
theorem zb3.here {c : Addr} {o o' : Option V} (h : zb3 H c o) : zb3 (H.aC c o') c o' := ⟨zac _ _ _, h.L, h.D, h.P, h.S⟩
theorem zba.set (h : zba H L os) {i : Nat} (hi : i < os.length) (o : Option V) : zba (H.aC (L + 1 + i) o) L (os.set i o) := ⟨fun j o' e => by
 by_cases z : j = i
 ·subst z
  rw [List.getElem?_set_self hi] at e
  cases e
  exact (h.at_ j _ (List.getElem?_eq_getElem hi)).here
 ·rw [List.getElem?_set_ne (fun y => z y.symm)] at e
  exact (h.at_ j o' e).setC (fun w => z (Nat.add_left_cancel (show (L + 1 : Nat) + j = L + 1 + i from w)))⟩
theorem zba.extd {H' : Hp} {ft : Addr -> Prop} (h : zba H L os) (e : Ext ft H H') (hn : ∀ c ov, zb3 H c ov -> ¬ ft c) : zba H' L os := ⟨fun j o z => (h.at_ j o z).ext e (hn _ _ (h.at_ j o z))⟩
theorem zb3.upL {c a : Addr} {o : Option V} {xs : List V} (h : zb3 H c o) (hn : c ≠ a) : zb3 (H.aL a xs) c o := ⟨h.C, (zak hn).trans h.L, h.D, h.P, h.S⟩
theorem zb3.unL {c a : Addr} {o : Option V} (h : zb3 H c o) : zb3 (H.uL a) c o := ⟨h.C, by
 show un H.L a c = none
 unfold un
 split
 ·rfl
 ·exact h.L, h.D, h.P, h.S⟩
theorem zba.newL (h : zba H L os) {a : Addr} (hf : H.Fresh a) (xs : List V) : zba (H.aL a xs) L os := ⟨fun j o z => (h.at_ j o z).upL (hf.neC (h.at_ j o z).C)⟩
theorem zba.setL (h : zba H L os) {a : Addr} {ys : List V} (e : H.L a = some ys) (xs : List V) : zba (H.aL a xs) L os := ⟨fun j o z => (h.at_ j o z).upL fun w => by
 have := (h.at_ j o z).L
 rw [w, e] at this; cases this⟩
theorem zba.unL (h : zba H L os) (a : Addr) : zba (H.uL a) L os := ⟨fun j o z => (h.at_ j o z).unL⟩
end
theorem GrOk.cell {cg cr : Addr} {g : GA} {t : GT} (gr : GrOk cg cr H g t) (c : Addr -> Option (Option V)) : GrOk cg cr { H with C := c } g t := gr.keep (fun J J => rfl) (fun J J => rfl) rfl rfl rfl rfl gr.gn
theorem GrOk.cellA {cg cr : Addr} {g : GA} {t : GT} (gr : GrOk cg cr H g t) (a : Addr) (o : Option V) : GrOk cg cr (H.aC a o) g t := gr.cell _
theorem GrOk.unL {cg cr : Addr} {g : GA} {t : GT} (gr : GrOk cg cr H g t) {a : Addr} (h : a ∉ GT.lists g t) : GrOk cg cr (H.uL a) g t :=
 gr.keep (fun b hb => by
  exact zhm fun z : b = a => h (z ▸ hb)) (fun J J => rfl) rfl rfl rfl rfl gr.gn
end
section
variable {F : Fx} {n : Nat} {loc : Loc} {H : Hp}
theorem zqf {c : Base} {L C : Addr} {nm : List (Str × NameKind)} {B B' : Keep} {loc : Loc} {H : Hp} {s s' : Shared} {oC : Obj} {sv : List (Addr × Obj)} (R : Rel (c.sv ((C, oC) :: sv)) L nm B loc H s) (h : ∃ m, s.heap.Ns C m) {L' nm' loc' H'} (R' : Rel (c.sv ((C, oC) :: sv)) L' nm' B' loc' H' s') : ∃ m, s'.heap.Ns C m := by
 obtain ⟨m, o, es, ep, h1, h2, h3⟩ := h
 obtain ⟨⟨o1, g1, g2⟩, _⟩ := R.sv _ (.head _)
 rw [h1] at g1; cases g1
 obtain ⟨⟨o3, k1, k2⟩, _⟩ := R'.sv _ (.head _)
 have e1 : oC.data = .dict es ep := by
  rcases g2 with z | ⟨_, ps, z⟩
  ·exact z.1.symm.trans h2
  ·subst z; cases h2
 exact ⟨m, o3, es, ep, k1, (k2.dict e1).trans e1, h3⟩
theorem zi4 (ok : Ok F n) {elt target iter : Expr} {ifs : List Expr} {scope : Scope} {pos p spos : Pos} {y : Str} {i : Nat} {Q : Fl -> Loc -> Hp -> Prop} (cl : List (Str × Addr)) (hifs : ifs = [] ∨ ∃ c, ifs = [c]) (hy : look F.nm y = some (i, .local))
  (hsw : swapsWith (.ListComp elt [⟨target, iter, ifs, 0⟩] scope pos) (some (.Name y p)) spos.line F.env = pure true)
  (hclos : closureFor scope F.env = pure cl) (hcell : ∀ y ∈ scope.names, y.2 ≠ .cell) (hkind : scope.kind = .function) (hdbg : (relabel scope F.env).names.lookup ("__debug__" : Str) = none) (hnames : ∀ y ∈ scope.names, y.2 = .local -> scope.names.lookup y.1 = some .local)
  (h : WIt F iter loc H fun St l H1 => ∃ xs f, zpe F n target elt ifs scope cl St xs f H1 ∧ Q .next (l.set i (some (.list (xs.filterMap f)))) H1)
  (hs : ∀ x, foldedSetIterable iter F.env x = pure x := by intro _; rfl) : WS F (.Assign [.Name y p] (.ListComp elt [⟨target, iter, ifs, 0⟩] scope pos) spos) loc H Q := fun B s R => by
 show wpAny F.M F.A (exec (.Assign [.Name y p] (.ListComp elt [⟨target, iter, ifs, 0⟩] scope pos) spos) F.env) _ _ _
 rw [exec_Assign_Name_used _ _ _ _ hsw]
 refine wpAny_bind (wpAny_standAt (wpAny_bind ?_))
 show wpAny _ F.A (do let _ ← comprehension (.ListComp elt [⟨target, iter, ifs, 0⟩] scope pos) scope F.env _ (newList []) false (eval iter F.env) (some (assign (.Name y p) F.env))) _ _ s
 refine wpAny_bind (wpAny_mono (wpAny_comprehension_free (use := some (assign (.Name y p) F.env)) (Q := fun J s' => Post F RelF B Q .next s') rfl hs hclos hkind hnames
  (wpAny_mono (h B s R) (fun xv s₁ h₁ => wpAny_mono h₁ (fun it s₂ h₂ => ?_) fun J J e => e) fun J J e => e)) (fun J s' hq => wpAny_pure (wpAny_pure hq)) fun J J e => e)
 obtain ⟨B', a, l, H', St, rfl, le, R', st, xs, f, K, q⟩ := h₂
 refine zjm ok hifs hcell hkind hdbg K R' le st (RR := fun acc C => compPost F.M F.A F.E (some (assign (.Name y p) F.env)) (fun J s' => Post F RelF B Q .next s') acc C) fun D C oC s' B2 le2 R2 hn hC r => ?_
 have okS : Ok (F.svd ((C, oC) :: F.c.saved)) n := ok.svd fun p hp J => .tail _ hp
 have hw := zlw (F := F.svd ((C, oC) :: F.c.saved)) okS (p := p) (X := .list (xs.filterMap f)) (loc := l) (H := H') (Q := fun l2 H2 => l2 = l.set i (some (.list (xs.filterMap f))) ∧ H2 = H') hy ⟨rfl, rfl⟩
 refine wpAny_mono (hw B2 s' _ R2 r) (fun _ s3 ⟨B3, _, l3, H3, le3, _, R3, e1, e2⟩ => ?_) fun J J e => e
 subst e1; subst e2
 obtain ⟨m3, hn3⟩ := zqf R2 hn R3
 exact ⟨m3, hn3, fun h' hs' => ⟨B3, _, _, H3, le2.trans le3, .next, (R3.unsave (s' := { s3 with heap := h' }) hC (fun b o hb e => hs'.extBut b o hb e) rfl rfl : Rel (F.c.sv F.c.saved) F.L F.nm B3 _ H3 _), q⟩⟩
theorem swY (ok : Ok F n) {nm : List (Str × NameKind)} {cl : List (Str × Addr)} (hF : zah F nm cl) {x : Str} {i : Nat} (hx : look nm x = some (i, .local)) {elt : Expr} {gs : List Comprehension} {scope : Scope} {pos p : Pos} {line : Nat}
  (h1 : (p.line == pos.line) = true) (h2 : (scope.names.any fun y => y.1 == x && (y.2 == .local || y.2 == .cell)) = false) :
  swapsWith (.ListComp elt gs scope pos) (some (.Name x p)) line F.env = pure true := by
 have e := zu6 hF hx
 show (pure (F.env.blockKind == .function && F.env.kindOf x == some .local && (p.line == pos.line) && !(scope.names.any fun y => y.1 == x && (y.2 == .local || y.2 == .cell))) : Sem Bool) = pure true
 rw [e, h1, h2, show F.env.blockKind = .function by unfold Env.blockKind; rw [ok.fn]; rfl]; rfl
theorem zsl {l r : Expr} {pos : Pos} {Q : V -> Loc -> Hp -> Prop} (h : WE F l loc H fun X l1 H1 => WE F r l1 H1 fun Y l2 H2 => ∃ xs ys, asL H2 X = some xs ∧ asL H2 Y = some ys ∧ xs.length + ys.length ≤ 1000000 ∧ Q (.list (xs ++ ys)) l2 H2) : WE F (.BinOp l .Add r pos) loc H Q :=
 zlx (zcr (h.mono fun X l1 H1 h2 => h2.mono fun Y l2 H2 ⟨xs, ys, ex, ey, hz, q⟩ => zn5 ex ey hz fun a ha => zgc ha q))
theorem Ok.le {m : Nat} (ok : Ok F n) (h : m ≤ n) : Ok F m :=
 ⟨ok.fn, ok.glob, ok.bi, ok.dbg, by have := ok.units; lia, by have := ok.depth; lia, fun z => ok.handled (by lia), ok.fr⟩
end
section
variable {F : Fx} {n : Nat} {loc : Loc} {H : Hp} {nm : List (Str × NameKind)} {cl : List (Str × Addr)}
noncomputable def Ev (F : Fx) (e : Expr) (loc : Loc) (H : Hp) (X : V) : Prop := ∀ ⦃Q : V -> Loc -> Hp -> Prop⦄, Q X loc H -> WE F e loc H Q
noncomputable def Evs (F : Fx) (pos : Pos) (es : List Expr) (loc : Loc) (H : Hp) (Xs : List V) : Prop := ∀ ⦃Q : List V -> Loc -> Hp -> Prop⦄, Q Xs loc H -> WEs F pos es loc H Q
noncomputable def EvB (F : Fx) (e : Expr) (loc : Loc) (H : Hp) (b : Bool) : Prop := ∀ ⦃Q : Bool -> Loc -> Hp -> Prop⦄, Q b loc H -> WB F e loc H Q
noncomputable def EvC (F : Fx) (f : V) (Xs : List V) (loc : Loc) (H : Hp) (X : V) : Prop := ∀ ⦃Q : V -> Loc -> Hp -> Prop⦄, Q X loc H -> Call F f Xs loc H Q
noncomputable def EvO (F : Fx) (t : Value -> Value -> Sem Value) (X Y : V) (loc : Loc) (H : Hp) (Z : V) : Prop := ∀ ⦃Q : V -> Loc -> Hp -> Prop⦄, Q Z loc H -> Op2 F t X Y loc H Q
noncomputable def EvU (F : Fx) (X Y : V) (loc : Loc) (H : Hp) (Z : V) : Prop := ∀ ⦃Q : V -> Loc -> Hp -> Prop⦄, Q Z loc H -> Sub F X Y loc H Q
noncomputable def EvK (F : Fx) (op : CmpOp) (X Y : V) (loc : Loc) (H : Hp) (b : Bool) : Prop := ∀ ⦃Q : Bool -> Loc -> Hp -> Prop⦄, Q b loc H -> Cmp F op X Y loc H Q
theorem eLoc (ok : Ok F n) (hF : zah F nm cl) {x : Str} {pos : Pos} {i : Nat} {X : V} (hx : look nm x = some (i, .local)) (hv : loc[i]? = some (some X)) : Ev F (.Name x pos) loc H X := fun J q => gLoc ok hF hx hv q
theorem zam (ok : Ok F n) (hF : zah F nm cl) {x : Str} {pos : Pos} {i : Nat} {a : Addr} {X : V} (hx : look nm x = some (i, .cell)) (hc : cl.lookup x = some a) (e : H.C a = some (some X)) : Ev F (.Name x pos) loc H X := fun J q => zk2 ok hF hx hc e q
theorem zsm (ok : Ok F n) (hF : zah F nm cl) {x : Str} {pos : Pos} {i : Nat} {a : Addr} {X : V} (hx : look nm x = some (i, .free)) (hc : cl.lookup x = some a) (e : H.C a = some (some X)) (hn : (x == ("__classdict__" : Str)) = false := by decide) : Ev F (.Name x pos) loc H X := fun J q => zr7 ok hF hx hc e q hn
theorem zff {K : Frag} (ok : Ok F n) (W : Wd K F.c.base) (hF : zah F nm cl) {x : Str} {pos : Pos} {i : Nat} {v : Value} {X : V} (hx : look nm x = some (i, .globalImplicit)) (e : nsIn K mainGlobals x = some (some v)) (r : RelV (fun a => F.c.base.get? a) v X) : Ev F (.Name x pos) loc H X := fun J q => zr8 ok W hF hx e r q
theorem eBi {K : Frag} (ok : Ok F n) (W : Wd K F.c.base) (hF : zah F nm cl) {x : Str} {pos : Pos} {i : Nat} {v : Value} (hx : look nm x = some (i, .globalImplicit)) (e : nsIn K mainGlobals x = some none) (hv : bootBuiltins x = some v) (hn : x ≠ "__name__") : Ev F (.Name x pos) loc H (.raw v) := fun J q => gBi ok W hF hx e hv hn q
theorem eInt {i : Int} {k : Nat} {pos : Pos} : Ev F (.Constant (.int i) k pos) loc H (.int i) := fun J q => zbu q
theorem eStr {x : String} {k : Nat} {pos : Pos} : Ev F (.Constant (.str (Str.ofString x)) k pos) loc H (.str (Str.ofString x)) := fun J q => zdw q
theorem zt5 {k : Nat} {pos : Pos} : Ev F (.Constant .none k pos) loc H .none := fun J q => zer q
theorem eBin {l r : Expr} {op : Operator} {pos : Pos} {X Y Z : V} (hl : Ev F l loc H X) (hr : Ev F r loc H Y) (ho : EvO F (binaryOp op) X Y loc H Z) : Ev F (.BinOp l op r pos) loc H Z := fun J q => zcr (hl (hr (ho q)))
theorem eSub {value slice : Expr} {pos : Pos} {X Y Z : V} (hl : Ev F value loc H X) (hr : Ev F slice loc H Y) (ho : EvU F X Y loc H Z)
  (hs : ∀ o i, subscripted slice false o i = operate [o, i] (getItem o i) := by intro _ _; with_unfolding_all rfl) : Ev F (.Subscript value slice pos) loc H Z := fun J q => zat (hl (hr (ho q))) hs
theorem eNil {pos : Pos} : Evs F pos [] loc H [] := fun J q => zaf q
theorem zaj {pos : Pos} {e : Expr} {rest : List Expr} {X : V} {Xs : List V} (h : Ev F e loc H X) (r : Evs F pos rest loc H Xs) (he : starEach (e :: rest) F.env = (false, eval e F.env) :: starEach rest F.env := by rfl) : Evs F pos (e :: rest) loc H (X :: Xs) := fun J q => zag (h (r q)) he
theorem zlc {x : Str} {np pos : Pos} {args : List Expr} {f X : V} {Xs : List V} (hf : Ev F (.Name x np) loc H f) (ha : Evs F pos args loc H Xs) (hk : zc6 F f loc H) (hc : EvC F f Xs loc H X)
  (hns : (backTo pos (starEach args F.env)).any (·.1) = false := by rfl) : Ev F (.Call (.Name x np) args [] pos) loc H X := fun J q => zav (hf (ha ⟨hk, hc q⟩)) hns
theorem eTup {es : List Expr} {k : Nat} {pos : Pos} {Xs : List V} (h : Evs F pos es loc H Xs) (hz : Xs.length ≤ 1000000 := by simp) : Ev F (.Tuple es k pos) loc H (.tup Xs) := fun J q => zih (h ⟨hz, q⟩)
theorem zeo {es : List Expr} {pos : Pos} {Xs : List V} (h : Evs F pos es loc H Xs) (hz : Xs.length ≤ 1000000 := by simp) : Ev F (.List es pos) loc H (.list Xs) := fun J q => zdp (h ⟨hz, q⟩)
theorem znd {l r : Expr} {pos : Pos} {X Y : V} {xs ys : List V} (hl : Ev F l loc H X) (hr : Ev F r loc H Y) (ex : asL H X = some xs) (ey : asL H Y = some ys) (hz : xs.length + ys.length ≤ 1000000) : Ev F (.BinOp l .Add r pos) loc H (.list (xs ++ ys)) := fun J q => zsl (hl (hr ⟨xs, ys, ex, ey, hz, q⟩))
theorem zbt {o : Expr} {name : Str} {pos : Pos} {X Y : V} (h : Ev F o loc H X) (g : ∀ ⦃Q : V -> Loc -> Hp -> Prop⦄, Q Y loc H -> GetA F name X loc H Q) (hbase : attributeBase o name F.env (eval o F.env) = eval o F.env := by rfl) : Ev F (.Attribute o name pos) loc H Y := fun J q => zaq (h (g q)) hbase
theorem zmd {x : Str} {np pos : Pos} {e : Expr} {X : V} {xs : List V} (ok : Ok F n) (hf : Ev F (.Name x np) loc H (.raw (.type "list"))) (he : Ev F e loc H X) (ex : asL H X = some xs ∨ X = .tup xs) (hz : xs.length ≤ 1000000)
  (hns : (backTo pos (starEach [e] F.env)).any (·.1) = false := by rfl) (hst : starEach (e :: []) F.env = (false, eval e F.env) :: starEach [] F.env := by rfl) : Ev F (.Call (.Name x np) [e] [] pos) loc H (.list xs) := fun J q => zjy ok (hf ⟨rfl, he ⟨xs, ex, hz, q⟩⟩) hns hst
theorem eCut {value hi : Expr} {p pos : Pos} {X : V} {xs : List V} {j : Nat} (hv : Ev F value loc H X) (hh : Ev F hi loc H (.int (j : Int))) (e : asL H X = some xs) (hz : xs.length ≤ 1000000) (ht : ∀ o r, letTemporaryGo value o r = pure () := by intro _ _; rfl) :
  Ev F (.Subscript value (.Slice none (some hi) none p) pos) loc H (.list (xs.take j)) := fun J q => by
 refine zjp (hv (zjn (zjo (hh ⟨(j : Int), rfl, xs, e, hz, (fun i z => by cases z), (fun i z => by cases z; exact Int.natCast_nonneg j), ?_⟩)))) ht
 have : cut xs none (some (j : Int)) = xs.take j := by simp [cut]
 rw [this]; exact q
theorem bCmp {l r : Expr} {op : CmpOp} {pos : Pos} {X Y : V} {b : Bool} (hl : Ev F l loc H X) (hr : Ev F r loc H Y) (hc : EvK F op X Y loc H b) (hm : behindInMarks op r = false := by with_unfolding_all rfl) : EvB F (.Compare l [op] [r] pos) loc H b := fun J q => zay (hl (hr (hc q))) hm
theorem bAnd {a c : Expr} {pos : Pos} {p : Bool} {q' : Bool} (h1 : EvB F a loc H p) (h2 : p = true -> EvB F c loc H q') : EvB F (.BoolOp .And [a, c] pos) loc H (p && q') := fun Q q => ze5 (zbr (h1 ⟨fun e => zbr (h2 e ⟨fun e2 => zf6 (by subst e; subst e2; exact q), fun e2 => by subst e; subst e2; exact q⟩), fun e => by subst e; exact q⟩))
theorem bNot {x : Expr} {pos : Pos} {b : Bool} (h : EvB F x loc H b) : EvB F (.UnaryOp .Not x pos) loc H (!b) := fun J q => zq4 (h q)
theorem bTru {e : Expr} {X : V} {b : Bool} (h : Ev F e loc H X) (ht : ∀ ⦃Q : Bool -> Loc -> Hp -> Prop⦄, Q b loc H -> Tru F X loc H Q) (he : isTrue e F.env (eval e F.env) = (do let v ← eval e F.env; standAt e.pos; holding [v] (truthy v)) := by rfl) : EvB F e loc H b := fun J q => ze4 (h (ht q)) he
theorem eIf {t b o : Expr} {pos : Pos} {c : Bool} {X : V} (h : EvB F t loc H c) (h1 : c = true -> Ev F b loc H X) (h2 : c = false -> Ev F o loc H X) : Ev F (.IfExp t b o pos) loc H X := fun J q => zgj (h ⟨fun e => h1 e q, fun e => h2 e q⟩)
theorem zot {elt target iter c : Expr} {scope : Scope} {pos : Pos} {X : V} {xs : List V} {f : V -> Option V} (ok : Ok F (n + 1)) (clos : List (Str × Addr)) (hi : Ev F iter loc H X) (ex : asL H X = some xs) (hz : xs.length ≤ 100000)
  (ht : ∀ C sv E, Ok (CFx F scope clos C sv E) (n + 1) -> ∀ (i : Nat) (x : V), xs[i]? = some x -> zc7 (CFx F scope clos C sv E) target elt [c] (zdt scope) H x (f x))
  (hclos : closureFor scope F.env = pure clos) (hdbg : (relabel scope F.env).names.lookup ("__debug__" : Str) = none) (hcell : ∀ y ∈ scope.names, y.2 ≠ .cell := by decide) (hkind : scope.kind = .function := by rfl) (hnames : ∀ y ∈ scope.names, y.2 = .local -> scope.names.lookup y.1 = some .local := by decide)
  (hs : ∀ x, foldedSetIterable iter F.env x = pure x := by intro _; rfl) : Ev F (.ListComp elt [⟨target, iter, [c], 0⟩] scope pos) loc H (.list (xs.filterMap f)) := fun J q =>
 zcy ok clos (.inr ⟨_, rfl⟩) hclos hcell hkind hdbg hnames (zcj (hi ⟨xs, ex, xs, f, ⟨fun i => zau i, hz, fun C sv E okc => ⟨zfs, fun i x hx => ⟨zbh ex hx, ht C sv E okc i x hx⟩, zan (okc.handled (Nat.succ_ne_zero _)) ex (Nat.le_refl _)⟩⟩, q⟩)) hs
theorem zou {elt target iter : Expr} {scope : Scope} {pos : Pos} {X : V} {xs : List V} {f : V -> Option V} (ok : Ok F (n + 1)) (clos : List (Str × Addr)) (hi : Ev F iter loc H X) (ex : asL H X = some xs) (hz : xs.length ≤ 100000)
  (ht : ∀ C sv E, Ok (CFx F scope clos C sv E) (n + 1) -> ∀ (i : Nat) (x : V), xs[i]? = some x -> zc7 (CFx F scope clos C sv E) target elt [] (zdt scope) H x (f x))
  (hclos : closureFor scope F.env = pure clos) (hdbg : (relabel scope F.env).names.lookup ("__debug__" : Str) = none) (hcell : ∀ y ∈ scope.names, y.2 ≠ .cell := by decide) (hkind : scope.kind = .function := by rfl) (hnames : ∀ y ∈ scope.names, y.2 = .local -> scope.names.lookup y.1 = some .local := by decide)
  (hs : ∀ x, foldedSetIterable iter F.env x = pure x := by intro _; rfl) : Ev F (.ListComp elt [⟨target, iter, [], 0⟩] scope pos) loc H (.list (xs.filterMap f)) := fun J q =>
 zcy ok clos (.inl rfl) hclos hcell hkind hdbg hnames (zcj (hi ⟨xs, ex, xs, f, ⟨fun i => zau i, hz, fun C sv E okc => ⟨zfs, fun i x hx => ⟨zbh ex hx, ht C sv E okc i x hx⟩, zan (okc.handled (Nat.succ_ne_zero _)) ex (Nat.le_refl _)⟩⟩, q⟩)) hs
theorem zld {target elt c : Expr} {l l1 : Loc} {x : V} {b : Bool} {out : Option V} {Y : V} (ha : ∀ ⦃Q : Loc -> Hp -> Prop⦄, Q l1 H -> WA F target x l H Q) (hb : EvB F c l1 H b) (h1 : b = true -> Ev F elt l1 H Y) (ho : out = if b then some Y else none) : zc7 F target elt [c] l H x out := by
 refine ha ⟨rfl, hb ⟨rfl, fun e => h1 e ⟨rfl, ?_⟩, fun e => ?_⟩⟩
 ·rw [ho, if_pos e]
 ·rw [ho, if_neg (by rw [e]; exact Bool.false_ne_true)]
theorem zqg {target elt : Expr} {l l1 : Loc} {x : V} {out : Option V} {Y : V} (ha : ∀ ⦃Q : Loc -> Hp -> Prop⦄, Q l1 H -> WA F target x l H Q) (h1 : Ev F elt l1 H Y) (ho : out = some Y) : zc7 F target elt [] l H x out := ha ⟨rfl, h1 ⟨rfl, ho⟩⟩
theorem sA (ok : Ok F n) (hF : zah F nm cl) {x : Str} {i : Nat} {e : Expr} {p pos : Pos} {X : V} {Q : Fl -> Loc -> Hp -> Prop} (hx : look nm x = some (i, .local)) (h : Ev F e loc H X) (q : Q .next (loc.set i (some X)) H) (hs : swapsWith e (some (.Name x p)) pos.line F.env = pure false := by rfl) : WS F (.Assign [.Name x p] e pos) loc H Q := sAsg ok hF hx (h q) hs
theorem sAC (ok : Ok F n) (hF : zah F nm cl) {x : Str} {i : Nat} {a : Addr} {e : Expr} {p pos : Pos} {X : V} {ov : Option V} {Q : Fl -> Loc -> Hp -> Prop} (hx : look nm x = some (i, .cell)) (hc : cl.lookup x = some a) (hv : H.C a = some ov) (h : Ev F e loc H X) (q : Q .next loc (H.aC a (some X))) (hs : swapsWith e (some (.Name x p)) pos.line F.env = pure false := by rfl) : WS F (.Assign [.Name x p] e pos) loc H Q := zho ok hF hx hc (h ⟨⟨_, hv⟩, q⟩) hs
theorem sIf {t : Expr} {body orelse : List Stmt} {pos : Pos} {b : Bool} {Q : Fl -> Loc -> Hp -> Prop} (h : EvB F t loc H b) (k1 : b = true -> WSs F body loc H Q) (k2 : b = false -> WSs F orelse loc H Q) : WS F (.If t body orelse pos) loc H Q := zjf (h ⟨k1, k2⟩)
theorem sRet {e : Expr} {pos : Pos} {X : V} {Q : Fl -> Loc -> Hp -> Prop} (h : Ev F e loc H X) (q : Q (.ret X) loc H) : WS F (.Return (some e) pos) loc H Q := zbc (h q)
end
section
variable {F : Fx} {n : Nat} {loc : Loc} {H : Hp} {nm : List (Str × NameKind)} {cl : List (Str × Addr)}
noncomputable def flt (p : Str -> Bool) : V -> Option V
 | .str s => if p s then some (.str s) else none
 | _ => none
theorem zfy (p : Str -> Bool) : ∀ l : List Str, (l.map V.str).filterMap (flt p) = (l.filter p).map V.str
 | [] => rfl
 | s :: r => by
  have ih := zfy p r
  have e : flt p (.str s) = if p s then some (.str s) else none := rfl
  rw [List.map_cons, List.filterMap_cons, e, List.filter_cons]
  by_cases h : p s = true
  ·rw [if_pos h, if_pos h]; exact congrArg (V.str s :: ·) ih
  ·rw [if_neg h, if_neg h]; exact ih
theorem zme {s : Str} {l : List Str} : inV (.str s) (l.map .str) = decide (s ∈ l) := by
 rw [Bool.eq_iff_iff, zig, decide_eq_true_iff, List.mem_map]
 constructor
 ·rintro ⟨x, hx, e⟩
  injection e with e; exact e ▸ hx
 ·exact fun h => ⟨s, h, rfl⟩
theorem zmf {xs : List Str} : ∀ y ∈ xs.map V.str, y.isD 20 = true := fun y hy => by
 obtain ⟨s, _, rfl⟩ := List.mem_map.mp hy
 rfl
theorem zgd {α : Type} {f : α -> V} {l : List α} {i : Nat} {x : V} (h : (l.map f)[i]? = some x) : ∃ a ∈ l, x = f a := by
 rw [List.getElem?_map] at h
 obtain ⟨a, ha, rfl⟩ := Option.map_eq_some_iff.mp h
 exact ⟨a, List.mem_of_getElem? ha, rfl⟩
theorem zge (ok : Ok F n) {s : Str} {Y : V} {l : List Str} (e : asL H Y = some (l.map .str)) : EvK F .NotIn (.str s) Y loc H (decide (s ∉ l)) := fun Q q => zgs ok e rfl zmf (by
 rw [zme, show (!decide (s ∈ l)) = decide (s ∉ l) by simp]; exact q)
theorem kIn (ok : Ok F n) {s : Str} {Y : V} {l : List Str} (e : asL H Y = some (l.map .str)) : EvK F .In (.str s) Y loc H (decide (s ∈ l)) := fun Q q => zq5 ok e rfl zmf (by rw [zme]; exact q)
theorem kEqs {x y : Str} : EvK F .Eq (.str x) (.str y) loc H (decide (x = y)) := fun J q => zrs q
theorem kNes {x y : Str} : EvK F .NotEq (.str x) (.str y) loc H (!decide (x = y)) := fun J q => zrt q
theorem kEqi {i j : Int} : EvK F .Eq (.int i) (.int j) loc H (decide (i = j)) := fun J q => zrr q
theorem kGt {i j : Int} : EvK F .Gt (.int i) (.int j) loc H (decide (i > j)) := fun J q => ztq q
theorem eLen {K : Frag} (ok : Ok F n) (W : Wd K F.c.base) (hF : zah F nm cl) {np pos : Pos} {a : Expr} {i : Nat} {X : V} {xs : List V} {m : Nat} (hx : look nm "len" = some (i, .globalImplicit)) (e : nsIn K mainGlobals "len" = some none) (ha : Ev F a loc H X) (ex : asL H X = some xs) (hm : xs.length = m) (hz : m ≤ 1000000)
  (hns : (backTo pos (starEach [a] F.env)).any (·.1) = false := by rfl) (hst : starEach (a :: []) F.env = (false, eval a F.env) :: starEach [] F.env := by rfl) : Ev F (.Call (.Name "len" np) [a] [] pos) loc H (.int (m : Int)) :=
 zlc (eBi ok W hF hx e (by boot_by_name) (by decide)) (zaj ha eNil hst) (zcq ok) (fun J q => zgl ex (hm ▸ hz) (by subst hm; exact q)) hns
theorem zfz {X : V} {xs : List V} {j : Nat} {x : V} (e : asL H X = some xs) (hx : xs[j]? = some x) (hz : xs.length ≤ 1000000) : EvU F X (.int (j : Int)) loc H x := fun J q =>
 zb4 e (Int.natCast_nonneg j) (by have := (List.getElem?_eq_some_iff.mp hx).1; lia) (by rw [Int.toNat_natCast]; exact hx) q
theorem uTup {xs : List V} {j : Nat} {x : V} (hx : xs[j]? = some x) (hj : j < 1000000 := by decide) : EvU F (.tup xs) (.int (j : Int)) loc H x := fun J q =>
 zku (Int.natCast_nonneg j) (by lia) (by rw [Int.toNat_natCast]; exact hx) q
theorem eFlt (ok : Ok F (n + 1)) (hF : zah F nm cl) {x y : Str} {iter : Expr} {scope : Scope} {p1 p2 p3 p4 p5 pos : Pos} {X M : V} {l m : List Str} {i j : Nat} {a : Addr} (clos : List (Str × Addr)) (hi : Ev F iter loc H X) (ex : asL H X = some (l.map .str)) (hz : l.length ≤ 100000)
  (hx : look (scope.names.map fun p => if (p.2 == .free && nm.lookup p.1 == some .cell) then (p.1, .cell) else p) x = some (i, .local)) (hy : look (scope.names.map fun p => if (p.2 == .free && nm.lookup p.1 == some .cell) then (p.1, .cell) else p) y = some (j, .cell)) (hset : ∀ X, ((zdt scope).set i (some X))[i]? = some (some X))
  (hc : clos.lookup y = some a) (hm : H.C a = some (some M)) (em : asL H M = some (m.map .str)) (hclos : closureFor scope F.env = pure clos) (hdbg : scope.names.lookup ("__debug__" : Str) = none) (hcell : ∀ y ∈ scope.names, y.2 ≠ .cell := by decide) (hkind : scope.kind = .function := by rfl) (hnames : ∀ y ∈ scope.names, y.2 = .local -> scope.names.lookup y.1 = some .local := by decide)
  (hmark : behindInMarks .NotIn (.Name y p4) = false := by with_unfolding_all rfl) (hs : ∀ x, foldedSetIterable iter F.env x = pure x := by intro _; rfl) :
  Ev F (.ListComp (.Name x p1) [⟨.Name x p2, iter, [.Compare (.Name x p3) [.NotIn] [.Name y p4] p5], 0⟩] scope pos) loc H (.list ((l.filter fun s => decide (s ∉ m)).map .str)) := by
 have h := zot ok clos hi ex (f := flt fun s => decide (s ∉ m)) (elt := .Name x p1) (target := .Name x p2) (c := .Compare (.Name x p3) [.NotIn] [.Name y p4] p5) (pos := pos) (by rw [List.length_map]; exact hz) (fun C sv E okc k z hk => by
  obtain ⟨s, _, rfl⟩ := zgd hk
  exact zld (fun J q => tLoc okc (zai ok hF) hx q) (bCmp (eLoc okc (zai ok hF) hx (hset _)) (zam okc (zai ok hF) hy hc hm) (zge okc em) hmark) (fun J => eLoc okc (zai ok hF) hx (hset _)) rfl) hclos (zcf ok hdbg) hcell hkind hnames hs
 rw [zfy] at h
 exact h
theorem zt6 {elt target iter c : Expr} {scope : Scope} {pos : Pos} {X : V} {xs : List V} {f : V -> Option V} (ok : Ok F (n + 1)) (x0 : Str) (clos : List (Str × Addr)) (hi : Ev F iter loc H X) (ex : ∀ C ov, asL (H.cel C ov) X = some xs) (hz : xs.length ≤ 100000)
  (ht : ∀ C sv E, H.Fresh (C + 1) -> Ok (CFx F scope ((x0, C + 1) :: clos) C sv E) (n + 1) -> ∀ (i : Nat) (x : V) (ov : Option V), xs[i]? = some x -> zfl (CFx F scope ((x0, C + 1) :: clos) C sv E) target elt [c] (zdt scope) H (C + 1) ov x (f x))
  (hclos : closureFor scope F.env = pure clos) (hone : scope.names.filter (·.2 == .cell) = [(x0, .cell)]) (hdbg : (relabel scope F.env).names.lookup ("__debug__" : Str) = none) (ex0 : asL H X = some xs) (hkind : scope.kind = .function := by rfl) (hnames : ∀ y ∈ scope.names, y.2 = .local -> scope.names.lookup y.1 = some .local := by decide)
  (hs : ∀ x, foldedSetIterable iter F.env x = pure x := by intro _; rfl) : Ev F (.ListComp elt [⟨target, iter, [c], 0⟩] scope pos) loc H (.list (xs.filterMap f)) := fun J q =>
 zjv ok x0 clos (.inr ⟨_, rfl⟩) hclos hone hkind hdbg hnames (zcj (hi ⟨xs, ex0, xs, f, ⟨fun i => zau i, hz, fun C sv E hfC okc => ⟨zfs, fun i x ov hx => ⟨zbh (ex _ _) hx, ht C sv E hfC okc i x ov hx⟩, fun ov => zan (okc.handled (Nat.succ_ne_zero _)) (ex _ _) (Nat.le_refl _)⟩⟩, q⟩)) hs
theorem zvb (ok : Ok F n) (hF : zah F nm cl) {x0 : Str} {p : Pos} {i : Nat} {ca : Addr} {elt c : Expr} {l : Loc} {ov : Option V} {x Y : V} {b : Bool} {out : Option V} (hx : look nm x0 = some (i, .cell)) (hc : cl.lookup x0 = some ca) (hb : EvB F c l (H.cel ca (some x)) b) (h1 : b = true -> Ev F elt l (H.cel ca (some x)) Y) (ho : out = if b then some Y else none) : zfl F (.Name x0 p) elt [c] l H ca ov x out :=
 zhp ok hF hx hc (hb ⟨rfl, fun e => h1 e ⟨rfl, by rw [ho, if_pos e]⟩, fun e => by rw [ho, if_neg (by rw [e]; exact Bool.false_ne_true)]⟩)
theorem goE {e : Expr} {X : V} {Q : V -> Loc -> Hp -> Prop} (h : Ev F e loc H X) (q : Q X loc H) : WE F e loc H Q := h q
theorem goEs {pos : Pos} {es : List Expr} {Xs : List V} {Q : List V -> Loc -> Hp -> Prop} (h : Evs F pos es loc H Xs) (q : Q Xs loc H) : WEs F pos es loc H Q := h q
theorem zsn {K : Frag} (ok : Ok F n) (W : Wd K F.c.base) (hF : zah F nm cl) {np pos' pos : Pos} {target arg : Expr} {body orelse : List Stmt} {i N : Nat} {Q : Fl -> Loc -> Hp -> Prop} (hx : look nm "range" = some (i, .globalImplicit)) (e : nsIn K mainGlobals "range" = some none) (ha : Ev F arg loc H (.int (N : Int))) (hN : N ≤ 1000000) (k : zqz F target body orelse Q (zkf F.c.lo N) loc H)
  (hns : (backTo pos' (starEach [arg] F.env)).any (·.1) = false := by rfl) (hst : starEach (arg :: []) F.env = (false, eval arg F.env) :: starEach [] F.env := by rfl) (hs : ∀ x, foldedSetIterable (.Call (.Name "range" np) [arg] [] pos') F.env x = pure x := by intro _; rfl) : WS F (.For target (.Call (.Name "range" np) [arg] [] pos') body orelse pos) loc H Q :=
 zbn (zd1 (gBi ok W hF hx e (by boot_by_name) (by decide) ⟨rfl, zag (ha (zaf ⟨N, rfl, by lia, k⟩)) hst⟩) hns) hs
theorem zne {target iter : Expr} {body orelse : List Stmt} {pos : Pos} {X : V} {xs : List V} {Q : Fl -> Loc -> Hp -> Prop} (hi : Ev F iter loc H X) (ex : asL H X = some xs) (k : zqz F target body orelse Q (zke F.c.lo X) loc H) (hs : ∀ x, foldedSetIterable iter F.env x = pure x := by intro _; rfl) : WS F (.For target iter body orelse pos) loc H Q :=
 zbn (zcj (hi ⟨xs, ex, k⟩)) hs
theorem zj4 {o : Expr} {name : Str} {apos pos : Pos} {args : List Expr} {X f Z : V} {Fs Xs : List V} (ho : Ev F o loc H X) (hm : ∀ ⦃Q : V -> List V -> Loc -> Hp -> Prop⦄, Q f Fs loc H -> MGet F name X loc H Q) (ha : Evs F pos args loc H Xs) (hk : zc6 F f loc H) (hc : EvC F f (Fs ++ Xs) loc H Z)
  (hbase : attributeBase o name F.env (eval o F.env) = eval o F.env := by rfl)
  (hfew : methodCallForm (args.length + ([] : List Keyword).length) (backTo pos (starEach args F.env)) (backToKw pos (keywordEach [] F.env)) = true := by rfl)
  (hline : (apos.endLine == pos.line) = true := by rfl) (hns : (backTo pos (starEach args F.env)).any (·.1) = false := by rfl) : Ev F (.Call (.Attribute o name apos) args [] pos) loc H Z := fun J q =>
 zc1 (ho (hm (ha ⟨hk, hc q⟩))) hbase hfew hline hns
theorem znf (ok : Ok F n) {o : Expr} {name : Str} {apos pos pos2 : Pos} {args : List Expr} {X f : V} {Fs Xs : List V} {Q : Fl -> Loc -> Hp -> Prop} (ho : Ev F o loc H X) (hm : ∀ ⦃Q : V -> List V -> Loc -> Hp -> Prop⦄, Q f Fs loc H -> MGet F name X loc H Q) (ha : Evs F pos args loc H Xs) (hk : zc6 F f loc H) (hc : Call F f (Fs ++ Xs) loc H fun J l1 H1 => Q .next l1 H1)
  (hbase : attributeBase o name F.env (eval o F.env) = eval o F.env := by rfl)
  (hfew : methodCallForm (args.length + ([] : List Keyword).length) (backTo pos (starEach args F.env)) (backToKw pos (keywordEach [] F.env)) = true := by rfl)
  (hline : (apos.endLine == pos.line) = true := by rfl) (hns : (backTo pos (starEach args F.env)).any (·.1) = false := by rfl) (hs : swapsWith (.Call (.Attribute o name apos) args [] pos) none pos2.line F.env = pure false := by rfl) : WS F (.Expr (.Call (.Attribute o name apos) args [] pos) pos2) loc H Q :=
 zm4 ok (zc1 (ho (hm (ha ⟨hk, hc⟩))) hbase hfew hline hns) hs
theorem sApp (ok : Ok F n) {o arg : Expr} {apos pos pos2 : Pos} {a : Addr} {X : V} {xs : List V} {Q : Fl -> Loc -> Hp -> Prop} (ho : Ev F o loc H (.ref a)) (ea : H.L a = some xs) (hx : Ev F arg loc H X) (hz : xs.length ≤ 1000000) (q : Q .next loc (H.aL a (xs ++ [X])))
  (hbase : attributeBase o "append" F.env (eval o F.env) = eval o F.env := by rfl)
  (hfew : methodCallForm ([arg].length + ([] : List Keyword).length) (backTo pos (starEach [arg] F.env)) (backToKw pos (keywordEach [] F.env)) = true := by rfl)
  (hline : (apos.endLine == pos.line) = true := by rfl) (hns : (backTo pos (starEach [arg] F.env)).any (·.1) = false := by rfl) (hst : starEach (arg :: []) F.env = (false, eval arg F.env) :: starEach [] F.env := by rfl) (hs : swapsWith (.Call (.Attribute o "append" apos) [arg] [] pos) none pos2.line F.env = pure false := by rfl) : WS F (.Expr (.Call (.Attribute o "append" apos) [arg] [] pos) pos2) loc H Q :=
 znf ok ho (fun J q => zgu ea q) (zaj hx eNil hst) (zcq ok) (zeu ea hz q) hbase hfew hline hns hs
theorem zhb {l m : List (Str × List V)} (hp : l.Perm m) (hl : l.Pairwise (fun a b => a.1.cps.toList < b.1.cps.toList)) (hm : m.Pairwise (fun a b => a.1.cps.toList < b.1.cps.toList)) : l = m :=
 hp.eq_of_pairwise (le := fun a b => a.1.cps.toList < b.1.cps.toList) (fun a b J J h k => absurd (List.lt_trans h k) (List.lt_irrefl _)) hl hm
theorem zmg {ps ps1 : List (Str × List V)} (h : ps1.Perm ps) (hd : (V.list (ps.map tupV)).isD 20 = true) : (V.list (ps1.map tupV)).isD 20 = true := by
 have hd : (ps.map tupV).all (V.isD 19) = true := hd
 show (ps1.map tupV).all (V.isD 19) = true
 rw [List.all_eq_true] at hd ⊢
 exact fun x hx => hd x ((h.map tupV).mem_iff.mp hx)
theorem kNeL (ok : Ok F n) {X Y : V} {xs : List V} (ex : asL H X = some xs) (ey : asL H Y = some xs) (hd : (V.list xs).isD 20 = true) : EvK F .NotEq X Y loc H false := fun Q q => by
 have a1 : ∀ Z, asL H Z = some xs -> asD H Z = .list xs := fun Z h => by
  cases Z <;> first | (cases h; done) | skip
  ·injection h with h; subst h; rfl
  ·show (match H.L _ with | some xs => V.list xs | none => _) = _
   rw [show H.L _ = some xs from h]
 refine zq6 ok (by rw [a1 X ex]; exact hd) (by rw [a1 Y ey]; exact hd) ?_
 rw [a1 X ex, a1 Y ey, zes.mpr rfl]; exact q
theorem kEqL (ok : Ok F n) {X Y : V} {xs : List V} (ex : asL H X = some xs) (ey : asL H Y = some xs) (hd : (V.list xs).isD 20 = true) : EvK F .Eq X Y loc H true := fun Q q => by
 have a1 : ∀ Z, asL H Z = some xs -> asD H Z = .list xs := fun Z h => by
  cases Z <;> first | (cases h; done) | skip
  ·injection h with h; subst h; rfl
  ·show (match H.L _ with | some xs => V.list xs | none => _) = _
   rw [show H.L _ = some xs from h]
 refine znt ok (by rw [a1 X ex]; exact hd) (by rw [a1 Y ey]; exact hd) ?_
 rw [a1 X ex, a1 Y ey, zes.mpr rfl]; exact q
section
variable {K : Frag} {l r : Expr} {p1 p2 p3 p4 p5 : Pos} {X Y : V}
theorem zmh (ok : Ok F n) (W : Wd K F.c.base) (hF : zah F nm cl) {i : Nat} {ps : List (Str × List V)} {Q : V -> Loc -> Hp -> Prop} (hx : look nm "sorted" = some (i, .globalImplicit)) (e : nsIn K mainGlobals "sorted" = some none) (hl : Ev F l loc H X) (ex : asL H X = some (ps.map tupV)) (hn : (ps.map (·.1)).Nodup) (hz : ps.length < 64)
  (q : ∀ ps' : List (Str × List V), ps'.Perm ps -> ps'.Pairwise (fun a b => a.1.cps.toList < b.1.cps.toList) -> Q (.list (ps'.map tupV)) loc H)
  (hns : (backTo p2 (starEach [l] F.env)).any (·.1) = false := by rfl) (hst : starEach (l :: []) F.env = (false, eval l F.env) :: starEach [] F.env := by rfl) : WE F (.Call (.Name "sorted" p1) [l] [] p2) loc H Q :=
 zav (gBi ok W hF hx e (by boot_by_name) (by decide) (zag (hl (zaf ⟨zcq ok, zj3 ex hn hz q⟩)) hst)) hns
theorem zov (ok : Ok F n) (W : Wd K F.c.base) (hF : zah F nm cl) {i : Nat} {ss : List Str} {Q : V -> Loc -> Hp -> Prop} (hx : look nm "sorted" = some (i, .globalImplicit)) (e : nsIn K mainGlobals "sorted" = some none) (hl : Ev F l loc H X) (ex : asL H X = some (ss.map .str)) (hz : ss.length < 64)
  (q : ∀ ss' : List Str, ss'.Perm ss -> sortedS ss' = true -> Q (.list (ss'.map .str)) loc H)
  (hns : (backTo p2 (starEach [l] F.env)).any (·.1) = false := by rfl) (hst : starEach (l :: []) F.env = (false, eval l F.env) :: starEach [] F.env := by rfl) : WE F (.Call (.Name "sorted" p1) [l] [] p2) loc H Q :=
 zav (gBi ok W hF hx e (by boot_by_name) (by decide) (zag (hl (zaf ⟨zcq ok, zey ex hz q⟩)) hst)) hns
theorem zt7 (ok : Ok F n) (W : Wd K F.c.base) (hF : zah F nm cl) {i : Nat} {ps ps' : List (Str × List V)} (hx : look nm "sorted" = some (i, .globalImplicit)) (e : nsIn K mainGlobals "sorted" = some none) (hl : Ev F l loc H X) (hr : Ev F r loc H Y) (ex : asL H X = some (ps.map tupV)) (ey : asL H Y = some (ps'.map tupV)) (hp : ps.Perm ps') (hn : (ps.map (·.1)).Nodup) (hz : ps.length < 64) (hd : (V.list (ps.map tupV)).isD 20 = true)
  (hns : (backTo p2 (starEach [l] F.env)).any (·.1) = false := by rfl) (hst : starEach (l :: []) F.env = (false, eval l F.env) :: starEach [] F.env := by rfl) (hns2 : (backTo p4 (starEach [r] F.env)).any (·.1) = false := by rfl) (hst2 : starEach (r :: []) F.env = (false, eval r F.env) :: starEach [] F.env := by rfl)
  (hm : behindInMarks .NotEq (.Call (.Name "sorted" p3) [r] [] p4) = false := by with_unfolding_all rfl) : EvB F (.Compare (.Call (.Name "sorted" p1) [l] [] p2) [.NotEq] [.Call (.Name "sorted" p3) [r] [] p4] p5) loc H false := fun J q =>
 zay (zmh ok W hF hx e hl ex hn hz (fun qs h1 s1 => zmh ok W hF hx e hr ey ((hp.map (·.1)).nodup_iff.mp hn) (hp.length_eq ▸ hz) (fun rs h2 s2 => by
  have e := zhb (h1.trans (hp.trans h2.symm)) s1 s2
  subst e
  exact kNeL ok rfl rfl (zmg h1 hd) q) hns2 hst2) hns hst) hm
theorem zt8 (ok : Ok F n) (W : Wd K F.c.base) (hF : zah F nm cl) {i : Nat} {ps : List (Str × List V)} (hx : look nm "sorted" = some (i, .globalImplicit)) (e : nsIn K mainGlobals "sorted" = some none) (hl : Ev F l loc H X) (hr : Ev F r loc H Y) (ex : asL H X = some (ps.map tupV)) (ey : asL H Y = some (ps.map tupV)) (hn : (ps.map (·.1)).Nodup) (hz : ps.length < 64) (hd : (V.list (ps.map tupV)).isD 20 = true)
  (hns : (backTo p2 (starEach [l] F.env)).any (·.1) = false := by rfl) (hst : starEach (l :: []) F.env = (false, eval l F.env) :: starEach [] F.env := by rfl) (hns2 : (backTo p4 (starEach [r] F.env)).any (·.1) = false := by rfl) (hst2 : starEach (r :: []) F.env = (false, eval r F.env) :: starEach [] F.env := by rfl)
  (hm : behindInMarks .Eq (.Call (.Name "sorted" p3) [r] [] p4) = false := by with_unfolding_all rfl) : Ev F (.Compare (.Call (.Name "sorted" p1) [l] [] p2) [.Eq] [.Call (.Name "sorted" p3) [r] [] p4] p5) loc H (.bool true) := fun J q =>
 zmt (zmh ok W hF hx e hl ex hn hz (fun qs h1 s1 => zmh ok W hF hx e hr ey hn hz (fun rs h2 s2 => by
  have e := zhb (h1.trans h2.symm) s1 s2
  subst e
  exact kEqL ok rfl rfl (zmg h1 hd) q) hns2 hst2) hns hst) hm
end
end
theorem aLG {H : Hp} {a b e : Addr} {x y} : ((H.aL a x).aG b e).aL a y = (H.aL a y).aG b e := by show Hp.mk (up (up _ _ _) _ _) _ _ _ _ _ _ = _; rw [zd3]
theorem aLDG {H : Hp} {a b d e : Addr} {x y w} : (((H.aL a x).aD d w).aG b e).aL a y = ((H.aL a y).aD d w).aG b e := by show Hp.mk (up (up _ _ _) _ _) _ _ _ _ _ _ = _; rw [zd3]
theorem aDG {H : Hp} {a b e : Addr} {x y} : ((H.aD a x).aG b e).aD a y = (H.aD a y).aG b e := by show Hp.mk _ (up (up _ _ _) _ _) _ _ _ _ _ = _; rw [zd3]
section
variable {F : Fx} {n : Nat} {loc : Loc} {H : Hp} {nm : List (Str × NameKind)} {cl : List (Str × Addr)}
theorem eBl {b : Bool} {k : Nat} {pos : Pos} : Ev F (.Constant (.bool b) k pos) loc H (.bool b) := fun J q => znp q
theorem kInD {k : Str} {d : Addr} {kvs : List (Str × V)} (e : H.D d = some kvs) : EvK F .In (.str k) (.ref d) loc H (dget kvs k).isSome := fun J q => zev e q
theorem zi5 {k : Str} {d : Addr} {kvs : List (Str × V)} (e : H.D d = some kvs) : EvK F .NotIn (.str k) (.ref d) loc H (!(dget kvs k).isSome) := fun J q => zec e q
theorem bB {e : Expr} {b : Bool} (h : Ev F e loc H (.bool b)) (he : isTrue e F.env (eval e F.env) = (do let v ← eval e F.env; standAt e.pos; holding [v] (truthy v)) := by rfl) : EvB F e loc H b := fun J q => ze4 (h (zlt q)) he
theorem zt9 {value slice : Expr} {pos : Pos} {d : Addr} {k : Str} {kvs : List (Str × V)} {X : V} (hl : Ev F value loc H (.ref d)) (hr : Ev F slice loc H (.str k)) (e : H.D d = some kvs) (hx : dget kvs k = some X)
  (hs : ∀ o i, subscripted slice false o i = operate [o, i] (getItem o i) := by intro _ _; with_unfolding_all rfl) : Ev F (.Subscript value slice pos) loc H X := fun J q => zat (hl (hr (zc2 e hx q))) hs
theorem zua {a b c : Expr} {pos : Pos} {p q' r : Bool} (h1 : EvB F a loc H p) (h2 : EvB F b loc H q') (h3 : EvB F c loc H r) : EvB F (.BoolOp .And [a, b, c] pos) loc H (p && (q' && r)) := fun Q q =>
 ze5 (zbr (h1 ⟨fun e => zbr (h2 ⟨fun e2 => zbr (h3 ⟨fun e3 => zf6 (by subst e; subst e2; subst e3; exact q), fun e3 => by subst e; subst e2; subst e3; exact q⟩), fun e2 => by subst e; subst e2; exact q⟩), fun e => by subst e; exact q⟩))
theorem bOr {a c : Expr} {pos : Pos} {p q' : Bool} (h1 : EvB F a loc H p) (h2 : EvB F c loc H q') : EvB F (.BoolOp .Or [a, c] pos) loc H (p || q') := fun Q q => ze5 (zf7 (h1 ⟨fun e => by subst e; exact q, fun e => zf7 (h2 ⟨fun e2 => by subst e; subst e2; exact q, fun e2 => zkr (by subst e; subst e2; exact q)⟩)⟩))
theorem EvB.cast {e : Expr} {b c : Bool} (h : EvB F e loc H b) (z : b = c) : EvB F e loc H c := z ▸ h
theorem zvc (ok : Ok F n) {a b : List Str} : EvK F .Eq (.list (a.map .str)) (.list (b.map .str)) loc H (decide (a = b)) := fun Q q => znt ok (by simp [asD, V.isD]) (by simp [asD, V.isD]) (by
 have e : eqV (asD H (.list (a.map .str))) (asD H (.list (b.map .str))) = decide (a = b) := by
  rw [Bool.eq_iff_iff, zes, decide_eq_true_iff]
  constructor
  ·intro h
   injection h with h
   have := congrArg (List.map unS) h
   rwa [ziy, ziy] at this
  ·rintro rfl; rfl
 rw [e]; exact q)
theorem Ev.cast {e : Expr} {X Y : V} (h : Ev F e loc H X) (z : X = Y) : Ev F e loc H Y := z ▸ h
theorem zub {N i : Nat} {x : V} (h : ((List.range N).map fun (k : Nat) => V.int k)[i]? = some x) : i < N ∧ x = .int (i : Int) := by
 rw [List.getElem?_map] at h
 obtain ⟨a, ha, rfl⟩ := Option.map_eq_some_iff.mp h
 obtain ⟨hi, e⟩ := List.getElem?_eq_some_iff.mp ha
 rw [List.getElem_range] at e
 rw [List.length_range] at hi
 exact ⟨hi, e ▸ rfl⟩
theorem zuc {K : Frag} (ok : Ok F (n + 1)) (W : Wd K F.c.base) (hF : zah F nm cl) {elt target arg c : Expr} {np p pos : Pos} {scope : Scope} {i N : Nat} {f : V -> Option V} (clos : List (Str × Addr)) (hx : look nm "range" = some (i, .globalImplicit)) (e : nsIn K mainGlobals "range" = some none) (ha : Ev F arg loc H (.int (N : Int))) (hN : N ≤ 100000)
  (ht : ∀ C sv E, Ok (CFx F scope clos C sv E) (n + 1) -> ∀ j, j < N -> zc7 (CFx F scope clos C sv E) target elt [c] (zdt scope) H (.int (j : Int)) (f (.int (j : Int))))
  (hclos : closureFor scope F.env = pure clos) (hdbg : (relabel scope F.env).names.lookup ("__debug__" : Str) = none) (hcell : ∀ y ∈ scope.names, y.2 ≠ .cell := by decide) (hkind : scope.kind = .function := by rfl) (hnames : ∀ y ∈ scope.names, y.2 = .local -> scope.names.lookup y.1 = some .local := by decide)
  (hns : (backTo p (starEach [arg] F.env)).any (·.1) = false := by rfl) (hst : starEach (arg :: []) F.env = (false, eval arg F.env) :: starEach [] F.env := by rfl) (hs : ∀ x, foldedSetIterable (.Call (.Name "range" np) [arg] [] p) F.env x = pure x := by intro _; rfl) :
  Ev F (.ListComp elt [⟨target, .Call (.Name "range" np) [arg] [] p, [c], 0⟩] scope pos) loc H (.list (((List.range N).map fun (k : Nat) => V.int k).filterMap f)) := fun J q => by
 have hl : ((List.range N).map fun (k : Nat) => V.int k).length = N := by rw [List.length_map, List.length_range]
 refine zcy ok clos (.inr ⟨_, rfl⟩) hclos hcell hkind hdbg hnames (zd1 (gBi ok W hF hx e (by boot_by_name) (by decide) ⟨rfl, zag (ha (zaf ⟨N, rfl, Nat.lt_of_le_of_lt hN (by decide), _, f, ⟨fun i => zce i, hl.symm ▸ hN, fun C sv E okc => ⟨zft, fun i x hx => ?_, ?_⟩⟩, q⟩)) hst⟩) hns) hs
 ·obtain ⟨hi, rfl⟩ := zub hx
  exact ⟨zew hi, ht C sv E okc i hi⟩
 ·rw [hl]; exact zb0 (okc.handled (Nat.succ_ne_zero _)) (Nat.le_refl _)
theorem zqh {o i e : Expr} {p pos : Pos} {k : Str} {d : Addr} {kvs : List (Str × V)} {X : V} {Q : Fl -> Loc -> Hp -> Prop} (hv : Ev F e loc H X) (ho : Ev F o loc H (.ref d)) (hi : Ev F i loc H (.str k)) (ed : H.D d = some kvs) (eG : H.G d = none) (hz : kvs.length ≤ 100000) (q : Q .next loc (H.aD d (dput kvs k X)))
  (hs : swapsWithSole [.Subscript o i p] e pos.line F.env = pure false := by rfl) (hw : swappedStores [.Subscript o i p] e F.env = pure none := by rfl) : WS F (.Assign [.Subscript o i p] e pos) loc H Q :=
 zae (hv (zdd (ho (hi (zb6 ed eG hz q))))) hs hw
end
namespace W1
noncomputable abbrev rw0 := PySem.Challenge.rw_iw0034_02
noncomputable abbrev pw := PySem.Challenge.pw_iw0034_02
noncomputable def tops : List Stmt := pw.main.body
noncomputable def ta (i : Nat) : Option Stmt := tops[i]?
noncomputable def clB : Option Stmt -> List Stmt
 | some (.ClassDef _ _ _ b _ _ _ _ _ _ _) => b
 | _ => []
noncomputable def tm (i j : Nat) : Option Stmt := (clB (ta i))[j]?
noncomputable def fnA : Option Stmt -> Arguments
 | some (.FunctionDef _ a _ _ _ _ _ _ _ _) => a
 | _ => { posonlyargs := [], args := [], vararg := none, kwonlyargs := [], kw_defaults := [], kwarg := none, defaults := [] }
noncomputable def fnB : Option Stmt -> List Stmt
 | some (.FunctionDef _ _ b _ _ _ _ _ _ _) => b
 | _ => []
noncomputable def en (P : Params) (k : Str) (t : Tok) (v : Value) : DictEntry := { hash := PyData.keyHash P k, key := .str k t, val := v }
noncomputable def tp (xs : Array Value) : Obj := { cls := .type "tuple", data := Data.seq xs }
noncomputable def K (P : Params) : Frag :=
[(2, { cls := .none, data := Data.dict #[en P "type.__subclasses__.Exception.0" 212 (.int 31 0), en P "type.__subclasses__.Exception.n" 213 (.int 1 0)] 2 }),
 (3, { cls := .type "dict", data := Data.dict #[en P "__name__" 165 (.str "law_iw0034_02" 539), en P "__doc__" 166 (.none), en P "__package__" 167 (.none), en P "__loader__" 168 (.builtin "__main__.__loader__#opaque"), en P "__spec__" 169 (.none), en P "__annotations__" 170 (.ref 6), en P "__builtins__" 171 (.ref 4), en P "__file__" 173 (.str "/claim/cut.py" 172), en P "__cached__" 174 (.none), en P "_wall" 193 (.ref 21), en P "YaccError" 215 (.ref 31), en P "Production" 294 (.ref 68), en P "rightmost_terminal" 303 (.ref 79), en P "GrammarError" 319 (.ref 89), en P "Grammar" 509 (.ref 215), en P "RuleNames" 538 (.ref 236), en P "_law_tokens" 544 (.ref 241), en P "_law_signs" 550 (.ref 248), en P "_law_words" 556 (.ref 255), en P "_law_kinds" 562 (.ref 262), en P "_law_rules" 568 (.ref 267), en P "_law_reached" 574 (.ref 272), en P "_law_ending" 580 (.ref 277), en P "law" 586 (.ref 282)] 24 }),
 (15, tp #[]),
 (17, tp #[.str "k" 190]),
 (18, tp #[]),
 (20, { cls := .type "code", data := Data.fields #[.str "_wall" 187, .str "_wall" 188, .str "/claim/cut.py" 189, .int 1 0, .int 1 0, .int 0 0, .int 0 0, .int 3 0, .ref 15, .bool true, .int 181 0, .ref 16, .none, .ref 17, .ref 18, .ref 19, .int 191 0, .int 1 0, .str "/claim/cut.py" 192] }),
 (21, { cls := .type "function", data := Data.func { name := "_wall", qualname := "_wall", params := fnA (ta 0), body := .stmts (fnB (ta 0)), scope := { kind := .function, names := [("k", .local)], isGenerator := false, isCoroutine := false }, globals := 3, closure := [], defaults := .none, kwdefaults := .none, pyModule := .str "__main__" 164, code := .ref 20 } }),
 (22, tp #[.type "Exception"]),
 (29, tp #[]),
 (30, { cls := .type "dict", data := Data.dict #[en P "__module__" 203 (.str "sly.yacc" 194), en P "__firstlineno__" 207 (.int 5 206), en P "__static_attributes__" 208 (.ref 29), en P "__weakref__" 210 (.ref 32), en P "__doc__" 211 (.none)] 3 }),
 (31, { cls := .type "type", data := Data.cls { name := "YaccError", bases := [.type "Exception"], mro := [.ref 31, .type "Exception", .type "BaseException", .type "object"], ns := 30, qualname := "YaccError", subclasses := [.ref 89] }, slots := #[some (.ref 22), none, some (.str "YaccError" 196), some (.str "YaccError" 204), some (.builtin "Exception.__new__"), some (.bool true)] }),
 (32, { cls := .type "getset_descriptor", data := Data.fields #[.str "__weakref__" 209, .ref 31, .builtin "ExceptionGroup.__weakref__", .none] }),
 (35, tp #[.type "object"]),
 (42, tp #[.str "right" 232, .int 0 233]),
 (43, tp #[]),
 (44, tp #[.ref 42, .none, .str "" 234, .int 0 235, .ref 43]),
 (45, tp #[]),
 (47, tp #[.str "self" 239, .str "number" 240, .str "name" 241, .str "prod" 242, .str "precedence" 243, .str "func" 244, .str "file" 245, .str "line" 246, .str "aliases" 247, .str "n" 248, .str "s" 249, .str "namecount" 250, .str "key" 251, .str "nameuse" 252, .str "namemap" 253, .str "index" 254, .str "k" 255, .str "alias" 256]),
 (48, tp #[]),
 (50, { cls := .type "code", data := Data.fields #[.str "__init__" 236, .str "Production.__init__" 237, .str "/claim/cut.py" 238, .int 11 0, .int 9 0, .int 0 0, .int 0 0, .int 3 0, .ref 45, .bool true, .int 181 0, .ref 46, .none, .ref 47, .ref 48, .ref 49, .int 257 0, .int 11 0, .str "/claim/cut.py" 258] }),
 (51, { cls := .type "function", data := Data.func { name := "__init__", qualname := "Production.__init__", params := fnA (tm 3 2), body := .stmts (fnB (tm 3 2)), scope := { kind := .function, names := [("self", .local), ("number", .local), ("name", .local), ("prod", .local), ("precedence", .local), ("func", .local), ("file", .local), ("line", .local), ("aliases", .local), ("n", .local), ("s", .local), ("namecount", .local), ("key", .local), ("nameuse", .local), ("namemap", .local), ("index", .local), ("k", .local), ("alias", .local), ("tuple", .globalImplicit), ("len", .globalImplicit), ("enumerate", .globalImplicit)], isGenerator := false, isCoroutine := false }, globals := 3, closure := [], defaults := .ref 44, kwdefaults := .none, pyModule := .str "sly.yacc" 194, code := .ref 50 } }),
 (52, tp #[]),
 (54, tp #[.str "self" 263]),
 (55, tp #[]),
 (57, { cls := .type "code", data := Data.fields #[.str "__len__" 260, .str "Production.__len__" 261, .str "/claim/cut.py" 262, .int 51 0, .int 1 0, .int 0 0, .int 0 0, .int 3 0, .ref 52, .bool true, .int 181 0, .ref 53, .none, .ref 54, .ref 55, .ref 56, .int 264 0, .int 51 0, .str "/claim/cut.py" 265] }),
 (58, { cls := .type "function", data := Data.func { name := "__len__", qualname := "Production.__len__", params := fnA (tm 3 3), body := .stmts (fnB (tm 3 3)), scope := { kind := .function, names := [("self", .local), ("len", .globalImplicit)], isGenerator := false, isCoroutine := false }, globals := 3, closure := [], defaults := .none, kwdefaults := .none, pyModule := .str "sly.yacc" 194, code := .ref 57 } }),
 (59, tp #[]),
 (61, tp #[.str "self" 270, .str "index" 271]),
 (62, tp #[]),
 (64, { cls := .type "code", data := Data.fields #[.str "__getitem__" 267, .str "Production.__getitem__" 268, .str "/claim/cut.py" 269, .int 54 0, .int 2 0, .int 0 0, .int 0 0, .int 3 0, .ref 59, .bool true, .int 181 0, .ref 60, .none, .ref 61, .ref 62, .ref 63, .int 272 0, .int 54 0, .str "/claim/cut.py" 273] }),
 (65, { cls := .type "function", data := Data.func { name := "__getitem__", qualname := "Production.__getitem__", params := fnA (tm 3 4), body := .stmts (fnB (tm 3 4)), scope := { kind := .function, names := [("self", .local), ("index", .local)], isGenerator := false, isCoroutine := false }, globals := 3, closure := [], defaults := .none, kwdefaults := .none, pyModule := .str "sly.yacc" 194, code := .ref 64 } }),
 (66, tp #[.str "file" 275, .str "func" 276, .str "len" 277, .str "line" 278, .str "lr_items" 279, .str "lr_next" 280, .str "name" 281, .str "namemap" 282, .str "number" 283, .str "prec" 284, .str "prod" 285, .str "usyms" 286]),
 (67, { cls := .type "dict", data := Data.dict #[en P "__module__" 223 (.str "sly.yacc" 194), en P "__firstlineno__" 227 (.int 7 226), en P "reduced" 229 (.int 0 228), en P "lr0_added" 231 (.int 0 230), en P "__init__" 259 (.ref 51), en P "__len__" 266 (.ref 58), en P "__getitem__" 274 (.ref 65), en P "__static_attributes__" 287 (.ref 66), en P "__dict__" 289 (.ref 69), en P "__weakref__" 291 (.ref 70), en P "__doc__" 292 (.none)] 4 }),
 (68, { cls := .type "type", data := Data.cls { name := "Production", bases := [.type "object"], mro := [.ref 68, .type "object"], ns := 67, qualname := "Production" }, slots := #[some (.ref 35), none, some (.str "Production" 216), some (.str "Production" 224), some (.builtin "object.__new__"), some (.bool true)] }),
 (69, { cls := .type "getset_descriptor", data := Data.fields #[.str "__dict__" 288, .ref 68, .builtin "function.__dict__", .builtin "function.__dict__#set"] }),
 (70, { cls := .type "getset_descriptor", data := Data.fields #[.str "__weakref__" 290, .ref 68, .builtin "ExceptionGroup.__weakref__", .none] }),
 (73, tp #[]),
 (75, tp #[.str "symbols" 298, .str "terminals" 299, .str "i" 300]),
 (76, tp #[]),
 (78, { cls := .type "code", data := Data.fields #[.str "rightmost_terminal" 295, .str "rightmost_terminal" 296, .str "/claim/cut.py" 297, .int 56 0, .int 2 0, .int 0 0, .int 0 0, .int 3 0, .ref 73, .bool true, .int 181 0, .ref 74, .none, .ref 75, .ref 76, .ref 77, .int 301 0, .int 56 0, .str "/claim/cut.py" 302] }),
 (79, { cls := .type "function", data := Data.func { name := "rightmost_terminal", qualname := "rightmost_terminal", params := fnA (ta 4), body := .stmts (fnB (ta 4)), scope := { kind := .function, names := [("symbols", .local), ("terminals", .local), ("i", .local), ("len", .globalImplicit)], isGenerator := false, isCoroutine := false }, globals := 3, closure := [], defaults := .none, kwdefaults := .none, pyModule := .str "sly.yacc" 194, code := .ref 78 } }),
 (80, tp #[.ref 31]),
 (87, tp #[]),
 (88, { cls := .type "dict", data := Data.dict #[en P "__module__" 311 (.str "sly.yacc" 194), en P "__firstlineno__" 315 (.int 63 314), en P "__static_attributes__" 316 (.ref 87), en P "__doc__" 317 (.none)] 2 }),
 (89, { cls := .type "type", data := Data.cls { name := "GrammarError", bases := [.ref 31], mro := [.ref 89, .ref 31, .type "Exception", .type "BaseException", .type "object"], ns := 88, qualname := "GrammarError" }, slots := #[some (.ref 80), none, some (.str "GrammarError" 304), some (.str "GrammarError" 312), some (.builtin "Exception.__new__"), some (.bool true)] }),
 (92, tp #[.type "object"]),
 (99, tp #[.none]),
 (100, tp #[]),
 (102, tp #[.str "self" 335, .str "terminals" 336, .str "names" 337, .str "term" 338]),
 (103, tp #[]),
 (105, { cls := .type "code", data := Data.fields #[.str "__init__" 332, .str "Grammar.__init__" 333, .str "/claim/cut.py" 334, .int 67 0, .int 3 0, .int 0 0, .int 0 0, .int 3 0, .ref 100, .bool true, .int 181 0, .ref 101, .none, .ref 102, .ref 103, .ref 104, .int 339 0, .int 67 0, .str "/claim/cut.py" 340] }),
 (106, { cls := .type "function", data := Data.func { name := "__init__", qualname := "Grammar.__init__", params := fnA (tm 6 0), body := .stmts (fnB (tm 6 0)), scope := { kind := .function, names := [("self", .local), ("terminals", .local), ("names", .local), ("term", .local), ("RuleNames", .globalImplicit), ("set", .globalImplicit)], isGenerator := false, isCoroutine := false }, globals := 3, closure := [], defaults := .ref 99, kwdefaults := .none, pyModule := .str "sly.yacc" 194, code := .ref 105 } }),
 (107, tp #[]),
 (109, tp #[.str "self" 345]),
 (110, tp #[]),
 (112, { cls := .type "code", data := Data.fields #[.str "__len__" 342, .str "Grammar.__len__" 343, .str "/claim/cut.py" 344, .int 83 0, .int 1 0, .int 0 0, .int 0 0, .int 3 0, .ref 107, .bool true, .int 181 0, .ref 108, .none, .ref 109, .ref 110, .ref 111, .int 346 0, .int 83 0, .str "/claim/cut.py" 347] }),
 (113, { cls := .type "function", data := Data.func { name := "__len__", qualname := "Grammar.__len__", params := fnA (tm 6 1), body := .stmts (fnB (tm 6 1)), scope := { kind := .function, names := [("self", .local), ("len", .globalImplicit)], isGenerator := false, isCoroutine := false }, globals := 3, closure := [], defaults := .none, kwdefaults := .none, pyModule := .str "sly.yacc" 194, code := .ref 112 } }),
 (114, tp #[]),
 (116, tp #[.str "self" 352, .str "index" 353]),
 (117, tp #[]),
 (119, { cls := .type "code", data := Data.fields #[.str "__getitem__" 349, .str "Grammar.__getitem__" 350, .str "/claim/cut.py" 351, .int 86 0, .int 2 0, .int 0 0, .int 0 0, .int 3 0, .ref 114, .bool true, .int 181 0, .ref 115, .none, .ref 116, .ref 117, .ref 118, .int 354 0, .int 86 0, .str "/claim/cut.py" 355] }),
 (120, { cls := .type "function", data := Data.func { name := "__getitem__", qualname := "Grammar.__getitem__", params := fnA (tm 6 2), body := .stmts (fnB (tm 6 2)), scope := { kind := .function, names := [("self", .local), ("index", .local)], isGenerator := false, isCoroutine := false }, globals := 3, closure := [], defaults := .none, kwdefaults := .none, pyModule := .str "sly.yacc" 194, code := .ref 119 } }),
 (121, tp #[]),
 (123, tp #[.str "self" 360, .str "term" 361, .str "assoc" 362, .str "level" 363]),
 (124, tp #[]),
 (126, { cls := .type "code", data := Data.fields #[.str "set_precedence" 357, .str "Grammar.set_precedence" 358, .str "/claim/cut.py" 359, .int 89 0, .int 4 0, .int 0 0, .int 0 0, .int 3 0, .ref 121, .bool true, .int 181 0, .ref 122, .none, .ref 123, .ref 124, .ref 125, .int 364 0, .int 89 0, .str "/claim/cut.py" 365] }),
 (127, { cls := .type "function", data := Data.func { name := "set_precedence", qualname := "Grammar.set_precedence", params := fnA (tm 6 3), body := .stmts (fnB (tm 6 3)), scope := { kind := .function, names := [("self", .local), ("term", .local), ("assoc", .local), ("level", .local), ("GrammarError", .globalImplicit)], isGenerator := false, isCoroutine := false }, globals := 3, closure := [], defaults := .none, kwdefaults := .none, pyModule := .str "sly.yacc" 194, code := .ref 126 } }),
 (128, tp #[.none, .str "" 367, .int 0 368]),
 (129, tp #[]),
 (131, tp #[.str "self" 372, .str "prodname" 373, .str "syms" 374, .str "func" 375, .str "file" 376, .str "line" 377, .str "n" 378, .str "s" 379, .str "c" 380, .str "precname" 381, .str "prodprec" 382, .str "map" 383, .str "pnumber" 384, .str "t" 385, .str "p" 386]),
 (132, tp #[]),
 (134, { cls := .type "code", data := Data.fields #[.str "add_production" 369, .str "Grammar.add_production" 370, .str "/claim/cut.py" 371, .int 97 0, .int 6 0, .int 0 0, .int 0 0, .int 3 0, .ref 129, .bool true, .int 181 0, .ref 130, .none, .ref 131, .ref 132, .ref 133, .int 387 0, .int 97 0, .str "/claim/cut.py" 388] }),
 (135, { cls := .type "function", data := Data.func { name := "add_production", qualname := "Grammar.add_production", params := fnA (tm 6 4), body := .stmts (fnB (tm 6 4)), scope := { kind := .function, names := [("self", .local), ("prodname", .local), ("syms", .local), ("func", .local), ("file", .local), ("line", .local), ("n", .local), ("s", .local), ("c", .local), ("precname", .local), ("prodprec", .local), ("map", .local), ("pnumber", .local), ("t", .local), ("p", .local), ("GrammarError", .globalImplicit), ("enumerate", .globalImplicit), ("len", .globalImplicit), ("rightmost_terminal", .globalImplicit), ("tuple", .globalImplicit), ("Production", .globalImplicit), ("KeyError", .globalImplicit)], isGenerator := false, isCoroutine := false }, globals := 3, closure := [], defaults := .ref 128, kwdefaults := .none, pyModule := .str "sly.yacc" 194, code := .ref 134 } }),
 (136, tp #[.none]),
 (137, tp #[]),
 (139, tp #[.str "self" 393, .str "start" 394]),
 (140, tp #[]),
 (142, { cls := .type "code", data := Data.fields #[.str "set_start" 390, .str "Grammar.set_start" 391, .str "/claim/cut.py" 392, .int 147 0, .int 2 0, .int 0 0, .int 0 0, .int 3 0, .ref 137, .bool true, .int 181 0, .ref 138, .none, .ref 139, .ref 140, .ref 141, .int 395 0, .int 147 0, .str "/claim/cut.py" 396] }),
 (143, { cls := .type "function", data := Data.func { name := "set_start", qualname := "Grammar.set_start", params := fnA (tm 6 5), body := .stmts (fnB (tm 6 5)), scope := { kind := .function, names := [("self", .local), ("start", .local), ("GrammarError", .globalImplicit), ("Production", .globalImplicit)], isGenerator := false, isCoroutine := false }, globals := 3, closure := [], defaults := .ref 136, kwdefaults := .none, pyModule := .str "sly.yacc" 194, code := .ref 142 } }),
 (144, tp #[]),
 (147, { cls := .type "code", data := Data.fields #[.str "find_unreachable" 398, .str "Grammar.find_unreachable" 399, .str "/claim/cut.py" 400, .int 156 0, .int 1 0, .int 0 0, .int 0 0, .int 3 0, .ref 144, .bool true, .int 181 0, .ref 145, .none, .none, .none, .ref 146, .int 401 0, .int 156 0, .str "/claim/cut.py" 402] }),
 (148, { cls := .type "function", data := Data.func { name := "find_unreachable", qualname := "Grammar.find_unreachable", params := fnA (tm 6 6), body := .stmts (fnB (tm 6 6)), scope := { kind := .function, names := [("self", .cell), ("mark_reachable_from", .cell), ("reachable", .cell), ("set", .globalImplicit)], isGenerator := false, isCoroutine := false, more := [("fast", Const.str "self"), ("fast", Const.str "s"), ("fast", Const.str "mark_reachable_from"), ("fast", Const.str "reachable")] }, globals := 3, closure := [], defaults := .none, kwdefaults := .none, pyModule := .str "sly.yacc" 194, code := .ref 147 } }),
 (149, tp #[]),
 (151, tp #[.str "self" 407, .str "terminates" 408, .str "t" 409, .str "n" 410, .str "some_change" 411, .str "pl" 412, .str "p" 413, .str "s" 414, .str "p_terminates" 415, .str "infinite" 416, .str "term" 417]),
 (152, tp #[]),
 (154, { cls := .type "code", data := Data.fields #[.str "infinite_cycles" 404, .str "Grammar.infinite_cycles" 405, .str "/claim/cut.py" 406, .int 169 0, .int 1 0, .int 0 0, .int 0 0, .int 3 0, .ref 149, .bool true, .int 181 0, .ref 150, .none, .ref 151, .ref 152, .ref 153, .int 418 0, .int 169 0, .str "/claim/cut.py" 419] }),
 (155, { cls := .type "function", data := Data.func { name := "infinite_cycles", qualname := "Grammar.infinite_cycles", params := fnA (tm 6 7), body := .stmts (fnB (tm 6 7)), scope := { kind := .function, names := [("self", .local), ("terminates", .local), ("t", .local), ("n", .local), ("some_change", .local), ("pl", .local), ("p", .local), ("s", .local), ("p_terminates", .local), ("infinite", .local), ("term", .local)], isGenerator := false, isCoroutine := false }, globals := 3, closure := [], defaults := .none, kwdefaults := .none, pyModule := .str "sly.yacc" 194, code := .ref 154 } }),
 (156, tp #[]),
 (158, tp #[.str "self" 424, .str "result" 425, .str "p" 426, .str "s" 427]),
 (159, tp #[]),
 (161, { cls := .type "code", data := Data.fields #[.str "undefined_symbols" 421, .str "Grammar.undefined_symbols" 422, .str "/claim/cut.py" 423, .int 202 0, .int 1 0, .int 0 0, .int 0 0, .int 3 0, .ref 156, .bool true, .int 181 0, .ref 157, .none, .ref 158, .ref 159, .ref 160, .int 428 0, .int 202 0, .str "/claim/cut.py" 429] }),
 (162, { cls := .type "function", data := Data.func { name := "undefined_symbols", qualname := "Grammar.undefined_symbols", params := fnA (tm 6 8), body := .stmts (fnB (tm 6 8)), scope := { kind := .function, names := [("self", .local), ("result", .local), ("p", .local), ("s", .local)], isGenerator := false, isCoroutine := false }, globals := 3, closure := [], defaults := .none, kwdefaults := .none, pyModule := .str "sly.yacc" 194, code := .ref 161 } }),
 (163, tp #[]),
 (165, tp #[.str "self" 434, .str "unused_tok" 435, .str "s" 436, .str "v" 437]),
 (166, tp #[]),
 (168, { cls := .type "code", data := Data.fields #[.str "unused_terminals" 431, .str "Grammar.unused_terminals" 432, .str "/claim/cut.py" 433, .int 212 0, .int 1 0, .int 0 0, .int 0 0, .int 3 0, .ref 163, .bool true, .int 181 0, .ref 164, .none, .ref 165, .ref 166, .ref 167, .int 438 0, .int 212 0, .str "/claim/cut.py" 439] }),
 (169, { cls := .type "function", data := Data.func { name := "unused_terminals", qualname := "Grammar.unused_terminals", params := fnA (tm 6 9), body := .stmts (fnB (tm 6 9)), scope := { kind := .function, names := [("self", .local), ("unused_tok", .local), ("s", .local), ("v", .local)], isGenerator := false, isCoroutine := false }, globals := 3, closure := [], defaults := .none, kwdefaults := .none, pyModule := .str "sly.yacc" 194, code := .ref 168 } }),
 (170, tp #[]),
 (172, tp #[.str "self" 444, .str "unused_prod" 445, .str "s" 446, .str "v" 447, .str "p" 448]),
 (173, tp #[]),
 (175, { cls := .type "code", data := Data.fields #[.str "unused_rules" 441, .str "Grammar.unused_rules" 442, .str "/claim/cut.py" 443, .int 219 0, .int 1 0, .int 0 0, .int 0 0, .int 3 0, .ref 170, .bool true, .int 181 0, .ref 171, .none, .ref 172, .ref 173, .ref 174, .int 449 0, .int 219 0, .str "/claim/cut.py" 450] }),
 (176, { cls := .type "function", data := Data.func { name := "unused_rules", qualname := "Grammar.unused_rules", params := fnA (tm 6 10), body := .stmts (fnB (tm 6 10)), scope := { kind := .function, names := [("self", .local), ("unused_prod", .local), ("s", .local), ("v", .local), ("p", .local)], isGenerator := false, isCoroutine := false }, globals := 3, closure := [], defaults := .none, kwdefaults := .none, pyModule := .str "sly.yacc" 194, code := .ref 175 } }),
 (177, tp #[]),
 (179, tp #[.str "self" 455, .str "unused" 456, .str "termname" 457]),
 (180, tp #[]),
 (182, { cls := .type "code", data := Data.fields #[.str "unused_precedence" 452, .str "Grammar.unused_precedence" 453, .str "/claim/cut.py" 454, .int 227 0, .int 1 0, .int 0 0, .int 0 0, .int 3 0, .ref 177, .bool true, .int 181 0, .ref 178, .none, .ref 179, .ref 180, .ref 181, .int 458 0, .int 227 0, .str "/claim/cut.py" 459] }),
 (183, { cls := .type "function", data := Data.func { name := "unused_precedence", qualname := "Grammar.unused_precedence", params := fnA (tm 6 11), body := .stmts (fnB (tm 6 11)), scope := { kind := .function, names := [("self", .local), ("unused", .local), ("termname", .local)], isGenerator := false, isCoroutine := false }, globals := 3, closure := [], defaults := .none, kwdefaults := .none, pyModule := .str "sly.yacc" 194, code := .ref 182 } }),
 (184, tp #[]),
 (186, tp #[.str "self" 464, .str "beta" 465]),
 (187, tp #[]),
 (189, { cls := .type "code", data := Data.fields #[.str "_first" 461, .str "Grammar._first" 462, .str "/claim/cut.py" 463, .int 234 0, .int 2 0, .int 0 0, .int 0 0, .int 3 0, .ref 184, .bool true, .int 181 0, .ref 185, .none, .ref 186, .ref 187, .ref 188, .int 466 0, .int 234 0, .str "/claim/cut.py" 467] }),
 (190, { cls := .type "function", data := Data.func { name := "_first", qualname := "Grammar._first", params := fnA (tm 6 12), body := .stmts (fnB (tm 6 12)), scope := { kind := .function, names := [("self", .local), ("beta", .local), ("_wall", .globalImplicit)], isGenerator := false, isCoroutine := false }, globals := 3, closure := [], defaults := .none, kwdefaults := .none, pyModule := .str "sly.yacc" 194, code := .ref 189 } }),
 (191, tp #[]),
 (193, tp #[.str "self" 472]),
 (194, tp #[]),
 (196, { cls := .type "code", data := Data.fields #[.str "compute_first" 469, .str "Grammar.compute_first" 470, .str "/claim/cut.py" 471, .int 237 0, .int 1 0, .int 0 0, .int 0 0, .int 3 0, .ref 191, .bool true, .int 181 0, .ref 192, .none, .ref 193, .ref 194, .ref 195, .int 473 0, .int 237 0, .str "/claim/cut.py" 474] }),
 (197, { cls := .type "function", data := Data.func { name := "compute_first", qualname := "Grammar.compute_first", params := fnA (tm 6 13), body := .stmts (fnB (tm 6 13)), scope := { kind := .function, names := [("self", .local), ("_wall", .globalImplicit)], isGenerator := false, isCoroutine := false }, globals := 3, closure := [], defaults := .none, kwdefaults := .none, pyModule := .str "sly.yacc" 194, code := .ref 196 } }),
 (198, tp #[.none]),
 (199, tp #[]),
 (201, tp #[.str "self" 479, .str "start" 480]),
 (202, tp #[]),
 (204, { cls := .type "code", data := Data.fields #[.str "compute_follow" 476, .str "Grammar.compute_follow" 477, .str "/claim/cut.py" 478, .int 240 0, .int 2 0, .int 0 0, .int 0 0, .int 3 0, .ref 199, .bool true, .int 181 0, .ref 200, .none, .ref 201, .ref 202, .ref 203, .int 481 0, .int 240 0, .str "/claim/cut.py" 482] }),
 (205, { cls := .type "function", data := Data.func { name := "compute_follow", qualname := "Grammar.compute_follow", params := fnA (tm 6 14), body := .stmts (fnB (tm 6 14)), scope := { kind := .function, names := [("self", .local), ("start", .local), ("_wall", .globalImplicit)], isGenerator := false, isCoroutine := false }, globals := 3, closure := [], defaults := .ref 198, kwdefaults := .none, pyModule := .str "sly.yacc" 194, code := .ref 204 } }),
 (206, tp #[]),
 (208, tp #[.str "self" 487]),
 (209, tp #[]),
 (211, { cls := .type "code", data := Data.fields #[.str "build_lritems" 484, .str "Grammar.build_lritems" 485, .str "/claim/cut.py" 486, .int 243 0, .int 1 0, .int 0 0, .int 0 0, .int 3 0, .ref 206, .bool true, .int 181 0, .ref 207, .none, .ref 208, .ref 209, .ref 210, .int 488 0, .int 243 0, .str "/claim/cut.py" 489] }),
 (212, { cls := .type "function", data := Data.func { name := "build_lritems", qualname := "Grammar.build_lritems", params := fnA (tm 6 15), body := .stmts (fnB (tm 6 15)), scope := { kind := .function, names := [("self", .local), ("_wall", .globalImplicit)], isGenerator := false, isCoroutine := false }, globals := 3, closure := [], defaults := .none, kwdefaults := .none, pyModule := .str "sly.yacc" 194, code := .ref 211 } }),
 (213, tp #[.str "First" 491, .str "Follow" 492, .str "Nonterminals" 493, .str "Precedence" 494, .str "Prodmap" 495, .str "Prodnames" 496, .str "Productions" 497, .str "Start" 498, .str "Terminals" 499, .str "UsedPrecedence" 500, .str "names" 501]),
 (214, { cls := .type "dict", data := Data.dict #[en P "__module__" 327 (.str "sly.yacc" 194), en P "__firstlineno__" 331 (.int 65 330), en P "__init__" 341 (.ref 106), en P "__len__" 348 (.ref 113), en P "__getitem__" 356 (.ref 120), en P "set_precedence" 366 (.ref 127), en P "add_production" 389 (.ref 135), en P "set_start" 397 (.ref 143), en P "find_unreachable" 403 (.ref 148), en P "infinite_cycles" 420 (.ref 155), en P "undefined_symbols" 430 (.ref 162), en P "unused_terminals" 440 (.ref 169), en P "unused_rules" 451 (.ref 176), en P "unused_precedence" 460 (.ref 183), en P "_first" 468 (.ref 190), en P "compute_first" 475 (.ref 197), en P "compute_follow" 483 (.ref 205), en P "build_lritems" 490 (.ref 212), en P "__static_attributes__" 502 (.ref 213), en P "__dict__" 504 (.ref 216), en P "__weakref__" 506 (.ref 217), en P "__doc__" 507 (.none)] 4 }),
 (215, { cls := .type "type", data := Data.cls { name := "Grammar", bases := [.type "object"], mro := [.ref 215, .type "object"], ns := 214, qualname := "Grammar" }, slots := #[some (.ref 92), none, some (.str "Grammar" 320), some (.str "Grammar" 328), some (.builtin "object.__new__"), some (.bool true)] }),
 (216, { cls := .type "getset_descriptor", data := Data.fields #[.str "__dict__" 503, .ref 215, .builtin "function.__dict__", .builtin "function.__dict__#set"] }),
 (217, { cls := .type "getset_descriptor", data := Data.fields #[.str "__weakref__" 505, .ref 215, .builtin "ExceptionGroup.__weakref__", .none] }),
 (227, tp #[]),
 (229, tp #[.str "self" 525]),
 (230, tp #[]),
 (232, { cls := .type "code", data := Data.fields #[.str "__init__" 522, .str "RuleNames.__init__" 523, .str "/claim/cut.py" 524, .int 247 0, .int 1 0, .int 0 0, .int 0 0, .int 3 0, .ref 227, .bool true, .int 181 0, .ref 228, .none, .ref 229, .ref 230, .ref 231, .int 526 0, .int 247 0, .str "/claim/cut.py" 527] }),
 (233, { cls := .type "function", data := Data.func { name := "__init__", qualname := "RuleNames.__init__", params := fnA (tm 7 0), body := .stmts (fnB (tm 7 0)), scope := { kind := .function, names := [("self", .local)], isGenerator := false, isCoroutine := false }, globals := 3, closure := [], defaults := .none, kwdefaults := .none, pyModule := .str "sly.yacc" 194, code := .ref 232 } }),
 (234, tp #[.str "aliases" 529, .str "gencount" 530]),
 (235, { cls := .type "dict", data := Data.dict #[en P "__module__" 517 (.str "sly.yacc" 194), en P "__firstlineno__" 521 (.int 245 520), en P "__init__" 528 (.ref 233), en P "__static_attributes__" 531 (.ref 234), en P "__dict__" 533 (.ref 237), en P "__weakref__" 535 (.ref 238), en P "__doc__" 536 (.none)] 4 }),
 (236, { cls := .type "type", data := Data.cls { name := "RuleNames", bases := [.type "object"], mro := [.ref 236, .type "object"], ns := 235, qualname := "RuleNames" }, slots := #[none, none, some (.str "RuleNames" 510), some (.str "RuleNames" 518), some (.builtin "object.__new__"), some (.bool true)] }),
 (237, { cls := .type "getset_descriptor", data := Data.fields #[.str "__dict__" 532, .ref 236, .builtin "function.__dict__", .builtin "function.__dict__#set"] }),
 (238, { cls := .type "getset_descriptor", data := Data.fields #[.str "__weakref__" 534, .ref 236, .builtin "ExceptionGroup.__weakref__", .none] }),
 (241, { cls := .type "list", data := Data.seq #[.str "x" 541, .str "y" 542, .str "z" 543] }),
 (242, tp #[]),
 (244, tp #[]),
 (245, tp #[]),
 (247, { cls := .type "code", data := Data.fields #[.str "_law_signs" 545, .str "_law_signs" 546, .str "/claim/cut.py" 547, .int 252 0, .int 0 0, .int 0 0, .int 0 0, .int 3 0, .ref 242, .bool true, .int 181 0, .ref 243, .none, .ref 244, .ref 245, .ref 246, .int 548 0, .int 252 0, .str "/claim/cut.py" 549] }),
 (248, { cls := .type "function", data := Data.func { name := "_law_signs", qualname := "_law_signs", params := fnA (ta 10), body := .stmts (fnB (ta 10)), scope := { kind := .function, names := [], isGenerator := false, isCoroutine := false }, globals := 3, closure := [], defaults := .none, kwdefaults := .none, pyModule := .str "law_iw0034_02" 539, code := .ref 247 } }),
 (249, tp #[]),
 (251, tp #[]),
 (252, tp #[]),
 (254, { cls := .type "code", data := Data.fields #[.str "_law_words" 551, .str "_law_words" 552, .str "/claim/cut.py" 553, .int 254 0, .int 0 0, .int 0 0, .int 0 0, .int 3 0, .ref 249, .bool true, .int 181 0, .ref 250, .none, .ref 251, .ref 252, .ref 253, .int 554 0, .int 254 0, .str "/claim/cut.py" 555] }),
 (255, { cls := .type "function", data := Data.func { name := "_law_words", qualname := "_law_words", params := fnA (ta 11), body := .stmts (fnB (ta 11)), scope := { kind := .function, names := [], isGenerator := false, isCoroutine := false }, globals := 3, closure := [], defaults := .none, kwdefaults := .none, pyModule := .str "law_iw0034_02" 539, code := .ref 254 } }),
 (256, tp #[]),
 (258, tp #[]),
 (259, tp #[]),
 (261, { cls := .type "code", data := Data.fields #[.str "_law_kinds" 557, .str "_law_kinds" 558, .str "/claim/cut.py" 559, .int 256 0, .int 0 0, .int 0 0, .int 0 0, .int 3 0, .ref 256, .bool true, .int 181 0, .ref 257, .none, .ref 258, .ref 259, .ref 260, .int 560 0, .int 256 0, .str "/claim/cut.py" 561] }),
 (262, { cls := .type "function", data := Data.func { name := "_law_kinds", qualname := "_law_kinds", params := fnA (ta 12), body := .stmts (fnB (ta 12)), scope := { kind := .function, names := [], isGenerator := false, isCoroutine := false }, globals := 3, closure := [], defaults := .none, kwdefaults := .none, pyModule := .str "law_iw0034_02" 539, code := .ref 261 } }),
 (263, tp #[]),
 (266, { cls := .type "code", data := Data.fields #[.str "_law_rules" 563, .str "_law_rules" 564, .str "/claim/cut.py" 565, .int 258 0, .int 2 0, .int 0 0, .int 0 0, .int 3 0, .ref 263, .bool true, .int 181 0, .ref 264, .none, .none, .none, .ref 265, .int 566 0, .int 258 0, .str "/claim/cut.py" 567] }),
 (267, { cls := .type "function", data := Data.func { name := "_law_rules", qualname := "_law_rules", params := fnA (ta 13), body := .stmts (fnB (ta 13)), scope := { kind := .function, names := [("script", .local), ("words", .local), ("rules", .local), ("number", .cell), ("rest", .local), ("size", .local), ("body", .cell), ("k", .local), ("behind", .local), ("range", .globalImplicit), ("_law_signs", .globalImplicit), ("len", .globalImplicit)], isGenerator := false, isCoroutine := false, more := [("fast", Const.str "script"), ("fast", Const.str "words"), ("fast", Const.str "rules"), ("fast", Const.str "number"), ("fast", Const.str "rest"), ("fast", Const.str "size"), ("fast", Const.str "body"), ("fast", Const.str "k"), ("fast", Const.str "behind"), ("fast", Const.str "name"), ("fast", Const.str "row"), ("fast", Const.str "word")] }, globals := 3, closure := [], defaults := .none, kwdefaults := .none, pyModule := .str "law_iw0034_02" 539, code := .ref 266 } }),
 (268, tp #[]),
 (271, { cls := .type "code", data := Data.fields #[.str "_law_reached" 569, .str "_law_reached" 570, .str "/claim/cut.py" 571, .int 272 0, .int 2 0, .int 0 0, .int 0 0, .int 3 0, .ref 268, .bool true, .int 181 0, .ref 269, .none, .none, .none, .ref 270, .int 572 0, .int 272 0, .str "/claim/cut.py" 573] }),
 (272, { cls := .type "function", data := Data.func { name := "_law_reached", qualname := "_law_reached", params := fnA (ta 14), body := .stmts (fnB (ta 14)), scope := { kind := .function, names := [("rules", .local), ("start", .local), ("line", .cell), ("place", .local), ("name", .local), ("body", .cell), ("word", .local), ("len", .globalImplicit), ("range", .globalImplicit)], isGenerator := false, isCoroutine := false, more := [("fast", Const.str "rules"), ("fast", Const.str "start"), ("fast", Const.str "line"), ("fast", Const.str "place"), ("fast", Const.str "name"), ("fast", Const.str "body"), ("fast", Const.str "word"), ("fast", Const.str "k"), ("fast", Const.str "sign")] }, globals := 3, closure := [], defaults := .none, kwdefaults := .none, pyModule := .str "law_iw0034_02" 539, code := .ref 271 } }),
 (273, tp #[]),
 (276, { cls := .type "code", data := Data.fields #[.str "_law_ending" 575, .str "_law_ending" 576, .str "/claim/cut.py" 577, .int 281 0, .int 2 0, .int 0 0, .int 0 0, .int 3 0, .ref 273, .bool true, .int 181 0, .ref 274, .none, .none, .none, .ref 275, .int 578 0, .int 281 0, .str "/claim/cut.py" 579] }),
 (277, { cls := .type "function", data := Data.func { name := "_law_ending", qualname := "_law_ending", params := fnA (ta 15), body := .stmts (fnB (ta 15)), scope := { kind := .function, names := [("rules", .cell), ("heads", .local), ("ends", .cell), ("height", .local), ("_law_tokens", .globalImplicit), ("range", .globalImplicit), ("len", .globalImplicit)], isGenerator := false, isCoroutine := false, more := [("fast", Const.str "rules"), ("fast", Const.str "heads"), ("fast", Const.str "ends"), ("fast", Const.str "height"), ("fast", Const.str "head"), ("fast", Const.str "name"), ("fast", Const.str "body"), ("fast", Const.str "word"), ("fast", Const.str "s")] }, globals := 3, closure := [], defaults := .none, kwdefaults := .none, pyModule := .str "law_iw0034_02" 539, code := .ref 276 } }),
 (278, tp #[]),
 (281, { cls := .type "code", data := Data.fields #[.str "law" 581, .str "law" 582, .str "/claim/cut.py" 583, .int 286 0, .int 1 0, .int 0 0, .int 0 0, .int 3 0, .ref 278, .bool true, .int 181 0, .ref 279, .none, .none, .none, .ref 280, .int 584 0, .int 286 0, .str "/claim/cut.py" 585] }),
 (282, { cls := .type "function", data := Data.func { name := "law", qualname := "law", params := fnA (ta 16), body := .stmts (fnB (ta 16)), scope := { kind := .function, names := [("script", .cell), ("k", .cell), ("mix", .local), ("grammar", .local), ("words", .cell), ("kinds", .cell), ("rules", .cell), ("head", .cell), ("body", .cell), ("word", .local), ("heads", .cell), ("names", .cell), ("sign", .local), ("start", .local), ("due", .local), ("line", .cell), ("ends", .cell), ("stands", .cell), ("first", .local), ("idle", .local), ("sum", .globalImplicit), ("range", .globalImplicit), ("len", .globalImplicit), ("Grammar", .globalImplicit), ("list", .globalImplicit), ("_law_tokens", .globalImplicit), ("_law_words", .globalImplicit), ("_law_kinds", .globalImplicit), ("_law_rules", .globalImplicit), ("_law_reached", .globalImplicit), ("sorted", .globalImplicit), ("_law_ending", .globalImplicit)], isGenerator := false, isCoroutine := false, more := [("fast", Const.str "script"), ("fast", Const.str "k"), ("fast", Const.str "mix"), ("fast", Const.str "grammar"), ("fast", Const.str "words"), ("fast", Const.str "kinds"), ("fast", Const.str "rules"), ("fast", Const.str "head"), ("fast", Const.str "body"), ("fast", Const.str "word"), ("fast", Const.str "heads"), ("fast", Const.str "names"), ("fast", Const.str "sign"), ("fast", Const.str "start"), ("fast", Const.str "due"), ("fast", Const.str "p"), ("fast", Const.str "line"), ("fast", Const.str "name"), ("fast", Const.str "ends"), ("fast", Const.str "stands"), ("fast", Const.str "token"), ("fast", Const.str "first"), ("fast", Const.str "rule"), ("fast", Const.str "idle")] }, globals := 3, closure := [], defaults := .none, kwdefaults := .none, pyModule := .str "law_iw0034_02" 539, code := .ref 281 } })]
noncomputable def kAdr : List Addr := [2, 3, 15, 17, 18, 20, 21, 22, 29, 30, 31, 32, 35, 42, 43, 44, 45, 47, 48, 50, 51, 52, 54, 55, 57, 58, 59, 61, 62, 64, 65, 66, 67, 68, 69, 70, 73, 75, 76, 78, 79, 80, 87, 88, 89, 92, 99, 100, 102, 103, 105, 106, 107, 109, 110, 112, 113, 114, 116, 117, 119, 120, 121, 123, 124, 126, 127, 128, 129, 131, 132, 134, 135, 136, 137, 139, 140, 142, 143, 144, 147, 148, 149, 151, 152, 154, 155, 156, 158, 159, 161, 162, 163, 165, 166, 168, 169, 170, 172, 173, 175, 176, 177, 179, 180, 182, 183, 184, 186, 187, 189, 190, 191, 193, 194, 196, 197, 198, 199, 201, 202, 204, 205, 206, 208, 209, 211, 212, 213, 214, 215, 216, 217, 227, 229, 230, 232, 233, 234, 235, 236, 237, 238, 241, 242, 244, 245, 247, 248, 249, 251, 252, 254, 255, 256, 258, 259, 261, 262, 263, 266, 267, 268, 271, 272, 273, 276, 277, 278, 281, 282]
theorem zso : ∀ P : Params, kAdr = (K P).map (·.1) := fun P => by kernel_rfl
noncomputable def kH : Hook := kmHook K kAdr zso [145]
noncomputable def qv : Program := PySem.W.view pw [16]
noncomputable def zkl : List PySem.Str := ["_wall", "__name__", "YaccError", "Production", "rightmost_terminal", "GrammarError", "Grammar", "RuleNames", "_law_tokens", "_law_signs", "_law_words", "_law_kinds", "_law_rules", "_law_reached", "_law_ending"]
noncomputable def qX (s : Shared) : Bool := xlAt qv [] s && recOk (RowW.records rw0.row.toRowW) s
theorem zud (w : World) : ((((PySem.W.Fast.tw10274390034422433532 PySem.W.Fast.tw14364793385576792824 (opening pw) w 5000 (PySem.W.Fast.tw1435165496053646825 (opening pw)).1 (PySem.W.Fast.tw1435165496053646825 (opening pw)).2).bind (PySem.W.Fast.tw14289696077712309145 pw)).bind fun s₀ => match s₀.heap.isNs mainGlobals && s₀.gens.size == 0 with
 | true => (PySem.W.Fast.tw14082659384304107361 PySem.W.Fast.tw14364793385576792824 pw w s₀.heap.objs.size (PySem.W.Fast.tw8920871248978507458 s₀.heap mainGlobals "__annotations__") 5000 s₀ (topStub pw)).bind fun s₁ => match staticsOk (importedModules pw.main.body) s₀.heap s₁.heap && namesBound pw s₁.heap && gensDone s₁ && laidKept s₀.heap s₁.heap with
   | true => some s₁
   | false => none
 | false => none).map fun s => (PySem.W.Fast.tw4187177175401517315 qv zkl (importedModules pw.main.body) qX true s, Hook.obs kH s)) = some (openGood qv zkl, Hook.val kH w) := by kernel_rfl
theorem zvd : LeftO pw qv zkl qX (Hook.obs kH) (Hook.val kH) 5000 := fun w => by
 have h := zud w
 rw [← PySem.W.Fast.te10274390034422433532, ← PySem.W.Fast.te14364793385576792824, ← PySem.W.Fast.te1435165496053646825, ← PySem.W.Fast.te14289696077712309145, ← PySem.W.Fast.te14082659384304107361, ← PySem.W.Fast.te8920871248978507458, ← PySem.W.Fast.te4187177175401517315] at h
 exact h
theorem zue : PySem.W.Fast.tw9446332074065402090 rw0 = true := by kernel_rfl
theorem zve : rw0.wellSaid = true := by
 have h := zue
 rw [← PySem.W.Fast.te9446332074065402090] at h
 exact h
section
variable {P : Params} {F : Fx} {n : Nat} {loc : Loc} {H : Hp}
theorem zsp (ok : Ok F (n + 1)) (W : Wd (K P) F.c.base) {x d : Addr} {Q : V -> Loc -> Hp -> Prop} (eI : H.I x = some (236, d)) (eG : H.G d = none)
  (q : ∀ a fs, a ≠ d -> H.Fresh a -> dget fs "aliases" = some (.ref a) -> Q .none loc ((H.aD a []).aD d fs)) : zco F 233 [.ref x] [] [] loc (H.aD d []) Q := by
 refine defP ok W ["self"] (Vs := [.ref x]) rfl rfl rfl rfl rfl rfl ?_ rfl ?_
 ·intro vs ws B r1 r2 le
  apply r2.e0
  apply r1.e1
  intro _ a
  exact ⟨[_], Looks.of_peek W.k rfl, .cons a .nil⟩
 ·intro F' ok tp W hF
  refine zaa (zae (zbu (zax (gLoc ok hF (X := .ref x) rfl rfl (zu4 ok W eI eG (by decide) fun f1 p1 => ?_)))))
  have l1 : f1.length ≤ 1 := p1.len
  refine zaa (zae (zb7 fun a ha => zax (gLoc ok hF (X := .ref x) rfl rfl (zu5 ok W eI eG (by lia) (frD ha).1.symm fun f2 p2 => ?_))))
  exact zab (q a f2 (frD ha).1 (frD ha).2 p2.here)
end
section
variable {P : Params} {F : Fx} {n : Nat} {loc : Loc} {H H1 : Hp}
theorem zow : ∀ z : Nat, z ≤ 100 -> (Str.ofString (toString (z : Int))).length ≤ 10000 := by decide +kernel
theorem upE {α : Type} {f : Addr -> Option α} {a b : Addr} {x : α} {y : Option α} (h : b ≠ a) (e : f b = y) : up f a x b = y := upe h e
noncomputable def PrF (fs : List (Str × V)) (num : Int) (nm : Str) (syms : List Str) (prec : V) : Prop :=
 dget fs "name" = some (.str nm) ∧ dget fs "prod" = some (.tup (syms.map .str)) ∧ dget fs "number" = some (.int num) ∧ dget fs "prec" = some prec
theorem zuf {α : Type} {f : Addr -> Option α} {a b : Addr} {x y x' y' : α} (h : a ≠ b) : up (up (up (up f a x) b y) a x') b y' = up (up f a x') b y' := by
 funext c
 by_cases e : c = b
 ·subst e; rw [zac, zac]
 ·rw [zak e, zak e]
  by_cases e' : c = a
  ·subst e'; rw [zac, zac]
  ·rw [zak e', zak e', zak e, zak e']
structure PB (H H1 : Hp) (x d : Addr) (f : List (Str × V)) : Prop where
 e : H1 = (H.aD d f)
 eI : H.I x = some (68, d)
 eG : ∀ a, H.G a = none
theorem PB.I {x d f} (h : PB H H1 x d f) : H1.I x = some (68, d) := by rw [h.e]; exact h.eI
theorem PB.D {x d f} (h : PB H H1 x d f) : H1.D d = some f := by rw [h.e]; exact zac _ _ _
theorem PB.G {x d f} (h : PB H H1 x d f) (a : Addr) : H1.G a = none := by rw [h.e]; exact h.eG a
theorem setP (ok : Ok F n) (W : Wd (K P) F.c.base) {x d : Addr} {fs : List (Str × V)} {name : Str} {Z : V} {Q : Loc -> Hp -> Prop} (h : PB H H1 x d fs) (hz : fs.length ≤ 900)
  (q : ∀ fs' H2, Put fs name Z fs' -> PB H H2 x d fs' -> Q loc H2) (ho : zkh (K P) 68 name = true := by rfl) (hn : PyData.strOk name = true := by exact zar _) : SetA F name (.ref x) Z loc H1 Q :=
 setF ok W h.I h.D (h.G d) hz (fun fs' hp => q _ _ hp ⟨by rw [h.e, aaD], h.eI, h.eG⟩) ho hn
noncomputable def PL (x al : Addr) (a9 a10 a11 a12 a13 a14 a15 a16 : Option V) : Loc := [some (.ref x), none, none, none, none, none, none, none, some (.ref al), a9, a10, a11, a12, a13, a14, a15, a16, none, none, none, none]
inductive Pi1 (x : Addr) (d : Addr) (al : Addr) (H : Hp) (u : Addr) (fs : List (Str × V)) (i : Nat) (l : Loc) (H' : Hp) : Prop
 | mk (us : List Str) (a9 : Option V) (a10 : Option V) (_ : List.length (α := Str) us ≤ i) (_ : l = PL x al a9 a10 none none none none none none) (_ : ((H.aL u (us.map .str)).aD d fs) = H') : Pi1 x d al H u fs i l H'
inductive Pi2 (x : Addr) (al : Addr) (syms : List Str) (H : Hp) (nc : Addr) (i : Nat) (l : Loc) (H' : Hp) : Prop
 | mk (cs : List (Str × V)) (a12 : Option V) (_ : List.length cs ≤ i) (_ : (∀ k, (∃ z : Nat, dget cs k = some (.int z) ∧ 1 ≤ z ∧ z ≤ i) ∨ (dget cs k = none ∧ k ∉ syms.take i))) (_ : l = PL x al none none (some (.ref nc)) a12 none none none none) (_ : (H.aD nc cs) = H') : Pi2 x al syms H nc i l H'
inductive Pi3 (x : Addr) (al : Addr) (H : Hp) (nc : Addr) (cs : List (Str × V)) (nu : Addr) (mp : Addr) (i : Nat) (l : Loc) (H' : Hp) : Prop
 | mk (us : List (Str × V)) (ms : List (Str × V)) (a12 : Option V) (a15 : Option V) (a16 : Option V) (_ : List.length us ≤ i) (_ : List.length ms ≤ i) (_ : (∀ k, (∃ z : Nat, (dget us k).getD (.int 0) = .int z ∧ z ≤ i))) (_ : l = PL x al none none (some (.ref nc)) a12 (some (.ref nu)) (some (.ref mp)) a15 a16) (_ : (((H.aD nc cs).aD nu us).aD mp ms) = H') : Pi3 x al H nc cs nu mp i l H'
theorem zre (ok : Ok F (n + 2)) (W : Wd (K P) F.c.base) {x d al : Addr} {num : Int} {nm : Str} {PV prec fn fi li : V} {syms : List Str} {Q : V -> Loc -> Hp -> Prop} {kws : List Str} {Xs Ws : List V} (hb : ∀ fd, kFd (K P) 51 = some fd -> zhk F.M F.c.base fd kws ["self", "number", "name", "prod", "precedence", "func", "file", "line", "aliases"] Xs Ws [.ref x, .int num, .str nm, PV, prec, fn, fi, li, .ref al])
  (eI : H.I x = some (68, d)) (eD : H.D d = some []) (hG : ∀ a, H.G a = none) (eA : H.D al = some []) (hne : al ≠ d) (eP : asL H PV = some (syms.map .str)) (hz : syms.length ≤ 100) (hl : ∀ s ∈ syms, s.length ≤ 1000)
  (q : ∀ fs, PrF fs num nm syms prec -> Q .none loc (H.aD d fs)) :
  zco F 51 Xs kws Ws loc H Q := by
 refine defP ok W ["self", "number", "name", "prod", "precedence", "func", "file", "line", "aliases"] (Vs := [.ref x, .int num, .str nm, PV, prec, fn, fi, li, .ref al]) rfl rfl rfl rfl rfl rfl ?_ rfl ?_
 ·exact hb _ rfl
 ·intro F' ok tp W hF
  have hz' : (syms.map V.str).length ≤ 1000000 := by rw [List.length_map]; lia
  have b0 : PB H H x d [] := ⟨(ztz eD).symm, eI, hG⟩
  refine zaa (zae (gLoc ok hF rfl rfl (zax (gLoc ok hF rfl rfl (setP ok W b0 (by decide) fun f1 H1 p1 b1 => ?_)))))
  have l1 : f1.length ≤ 1 := p1.len
  have eP1 : asL H1 PV = some (syms.map .str) := by rw [b1.e]; exact eP
  refine zaa (zae (zav (gBi ok W hF rfl rfl (by boot_by_name) (by decide) (zag (gLoc ok hF rfl rfl (zaf ⟨zcq ok, zhx (xs := syms.map .str) eP1 hz' (zax (gLoc ok hF rfl rfl (setP ok W b1 (Nat.le_trans l1 (by decide)) fun f2 H2 p2 b2 => ?_)))⟩))))))
  have l2 : f2.length ≤ 2 := Nat.le_trans p2.len (Nat.succ_le_succ l1)
  refine zaa (zae (gLoc ok hF rfl rfl (zax (gLoc ok hF rfl rfl (setP ok W b2 (Nat.le_trans l2 (by decide)) fun f3 H3 p3 b3 => ?_)))))
  have l3 : f3.length ≤ 3 := Nat.le_trans p3.len (Nat.succ_le_succ l2)
  refine zaa (zae (gLoc ok hF rfl rfl (zax (gLoc ok hF rfl rfl (setP ok W b3 (Nat.le_trans l3 (by decide)) fun f4 H4 p4 b4 => ?_)))))
  have l4 : f4.length ≤ 4 := Nat.le_trans p4.len (Nat.succ_le_succ l3)
  refine zaa (zae (gLoc ok hF rfl rfl (zax (gLoc ok hF rfl rfl (setP ok W b4 (Nat.le_trans l4 (by decide)) fun f5 H5 p5 b5 => ?_)))))
  have l5 : f5.length ≤ 5 := Nat.le_trans p5.len (Nat.succ_le_succ l4)
  refine zaa (zae (gLoc ok hF rfl rfl (zax (gLoc ok hF rfl rfl (setP ok W b5 (Nat.le_trans l5 (by decide)) fun f6 H6 p6 b6 => ?_)))))
  have l6 : f6.length ≤ 6 := Nat.le_trans p6.len (Nat.succ_le_succ l5)
  refine zaa (zae (gLoc ok hF rfl rfl (zax (gLoc ok hF rfl rfl (setP ok W b6 (Nat.le_trans l6 (by decide)) fun f7 H7 p7 b7 => ?_)))))
  have l7 : f7.length ≤ 7 := Nat.le_trans p7.len (Nat.succ_le_succ l6)
  have g7 : PrF f7 num nm syms prec := ⟨p7.old (p6.old (p5.old (p4.old (p3.old (p2.old p1.here))))), p7.old (p6.old (p5.old (p4.old (p3.old p2.here)))), p7.old (p6.old (p5.old (p4.old p3.here))), p7.here⟩
  refine zb8 (loc' := PL x al none none none none none none none none) (H' := H7) ?_ (by unfold PL; exact (by repeat (first | exact zap.refl _ | refine zap.same ?_ | refine zap.drop ?_))) (Hp.Sub.refl _)
  clear p1 p2 p3 p4 p5 p6 p7 b0 b1 b2 b3 b4 b5 b6 l1 l2 l3 l4 l5 l6 eP1 eP
  refine zaa (zae (zav (gBi ok W hF rfl rfl (by boot_by_name) (by decide) (zag (zaq (gLoc ok hF rfl rfl (getA ok W b7.I b7.D g7.2.1 rfl (zaf ⟨zcq ok, zf8 hz' (zax (gLoc ok hF rfl rfl (setP ok W b7 (Nat.le_trans l7 (by decide)) fun f8 H8 p8 b8 => ?_)))⟩))))))))
  have l8 : f8.length ≤ 8 := Nat.le_trans p8.len (Nat.succ_le_succ l7)
  have g8 : PrF f8 num nm syms prec := ⟨p8.old g7.1, p8.old g7.2.1, p8.old g7.2.2.1, p8.old g7.2.2.2⟩
  have q8 : ∀ fs, PrF fs num nm syms prec -> Q .none loc (H8.aD d fs) := fun fs h => by
   have := q fs h
   rw [b8.e, aaD]; exact this
  have eI : H8.I x = some (68, d) := b8.I
  have eD : H8.D d = some f8 := b8.D
  have hG : ∀ a, H8.G a = none := b8.G
  have eA : H8.D al = some [] := by rw [b8.e]; exact upe hne eA
  clear p8 g7 b7 b8 q l7
  generalize H8 = H at *
  refine zaa (zae (za9 (zaf ⟨by decide, fun u hu => zax (gLoc ok hF rfl rfl (setF ok W eI eD (hG d) (Nat.le_trans l8 (by decide)) fun fs p9 => ?_))⟩)))
  have g1 : PrF fs num nm syms prec := ⟨p9.old g8.1, p9.old g8.2.1, p9.old g8.2.2.1, p9.old g8.2.2.2⟩
  have g2 : dget fs "usyms" = some (.ref u) := p9.here
  have g3 : fs.length ≤ 9 := Nat.le_trans p9.len (Nat.succ_le_succ l8)
  have hul : H.L u = none := hu.l
  clear p9 g8 hu l8
  -- the first loop
  refine zaa (zbn (zis (gBi ok W hF rfl rfl (by boot_by_name) (by decide) ⟨rfl, zag (zaq (gLoc ok hF rfl rfl (getA ok W eI (zac _ _ _) g1.2.1 rfl (zaf ⟨_, rfl, .inr ⟨_, rfl, ?_⟩⟩))))⟩)))
  refine za3 (fun i => zhv i) (syms.map V.str).length (Pi1 x d al H u fs) ⟨[], none, none, by simp, rfl, rfl⟩ ?_ ?_
  ·rintro i Q1 b1 l H' hi ⟨us, a9, a10, hus, rfl, rfl⟩
   have hi' : i < syms.length := by simpa using hi
   have hx : (syms.map V.str)[i]? = some (.str syms[i]) := by simp [hi']
   generalize syms[i] = s at hx
   refine ⟨.tup [.int i, .str s], znz ok hx, ?_⟩
   refine zbg ok.inl rfl (tLoc ok.inl hF rfl (tLoc ok.inl hF rfl ?_))
   refine zaa (sIf (bCmp (eLoc ok.inl hF rfl rfl) (zbt (eLoc ok.inl hF rfl rfl) fun J q => getA ok.inl W eI (zac _ _ _) g2 rfl q) fun J q => zgs ok.inl (xs := us.map .str) (zac _ _ _) rfl (by simp [V.isD]) q) (fun J => ?_) fun J => ?_)
   ·refine zaa (sApp ok.inl (xs := us.map .str) (zbt (eLoc ok.inl hF rfl rfl) fun J q => getA ok.inl W eI (zac _ _ _) g2 rfl q) (zac _ _ _) (eLoc ok.inl hF rfl rfl) (by rw [List.length_map]; lia) (zab (zab (b1.n ⟨us ++ [s], _, _, by rw [List.length_append]; exact Nat.succ_le_succ hus, rfl, by show Hp.mk (up _ _ _) _ _ _ _ _ _ = Hp.mk (up (up _ _ _) _ _) _ _ _ _ _ _; rw [zd3, List.map_append]; rfl⟩))))
   ·exact zab (zab (b1.n ⟨us, _, _, Nat.le_succ_of_le hus, rfl, rfl⟩))
  ·rintro l H' ⟨us, a9, a10, hus, rfl, rfl⟩
   refine ⟨zg0 ok rfl, zab ?_⟩
   refine zb8 (loc' := PL x al none none none none none none none none) (H' := (H.aD d fs)) ?_ (by unfold PL; exact (by repeat (first | exact zap.refl _ | refine zap.same ?_ | refine zap.drop ?_))) (subL hul)
   have eA : (up H.D d fs) al = some [] := upe hne eA
   have eD : (up H.D d fs) d = some fs := zac _ _ _
   have q : ∀ fs', PrF fs' num nm syms prec -> Q .none loc ((H.aD d fs).aD d fs') := fun fs' h => aaD.symm ▸ q8 fs' h
   have eI : ((H.aD d fs) : Hp).I x = some (68, d) := eI
   have hG : ∀ a, ((H.aD d fs) : Hp).G a = none := hG
   change ((H.aD d fs) : Hp).D al = _ at eA
   change ((H.aD d fs) : Hp).D d = _ at eD
   change ∀ fs', _ -> Q .none loc (((H.aD d fs) : Hp).aD d fs') at q
   clear g2 hus us a9 a10 hul q8
   generalize ((H.aD d fs) : Hp) = H at *
   -- the counts
   refine zaa (sAsg ok hF rfl (zb7 fun nc hnc => ?_))
   have hncd : d ≠ nc := hnc.neD eD
   have hnca : al ≠ nc := hnc.neD eA
   have hncD := hnc.d
   refine zaa (zbn (zir (zaq (gLoc ok hF rfl rfl (getA ok W eI (upe hncd eD) g1.2.1 rfl ⟨_, rfl, ?_⟩)))))
   refine za3 (fun i => zee i) (syms.map V.str).length (Pi2 x al syms H nc) ⟨[], none, by simp, fun k => .inr ⟨rfl, by simp⟩, rfl, rfl⟩ ?_ ?_
   ·rintro i Q2 b2 l H' hi ⟨cs, a12, hcl, hcs, rfl, rfl⟩
    have hi' : i < syms.length := by simpa using hi
    have hx : (syms.map V.str)[i]? = some (.str syms[i]) := by simp [hi']
    have htk : syms.take (i + 1) = syms.take i ++ [syms[i]] := zao hi'
    have hi9 : i ≤ 100000 := by lia
    generalize syms[i] = s at hx htk
    refine ⟨.str s, ziq hx, tLoc ok.inl hF rfl ?_⟩
    have eNC : (up H.D nc cs) nc = some cs := zac _ _ _
    obtain ⟨z, hz1, hz2⟩ : ∃ z : Nat, (dget cs s).getD (.int 0) = .int z ∧ z ≤ i := by
     rcases hcs s with ⟨z, h1, h2, h3⟩ | ⟨h1, _⟩
     ·exact ⟨z, by rw [h1]; rfl, h3⟩
     ·exact ⟨0, by rw [h1]; rfl, Nat.zero_le _⟩
    refine zaa (zae (goE (eBin (zj4 (eLoc ok.inl hF rfl rfl) (fun J q => zde eNC q) (zaj (eLoc ok.inl hF rfl rfl) (zaj eInt eNil)) (zcq ok.inl) fun Q q => zdf eNC (by rw [hz1]; exact q)) eInt fun J q => zjg q) (zdd (gLoc ok.inl hF rfl rfl (gLoc ok.inl hF rfl rfl (zb6 eNC (hG nc) (Nat.le_trans hcl hi9) ?_))))))
    refine zaa (sIf (b := false) (bCmp (eLoc ok.inl hF rfl rfl) (eLoc ok.inl hF rfl rfl) fun J q => zev (kvs := []) (upe hnca (upe hnca eA)) q) (fun h => by cases h) fun J => zab (zab (b2.n ⟨dput cs s (V.int ((z : Int) + 1)), _, Nat.le_trans (zcx _ _ _) (Nat.succ_le_succ hcl), fun k => ?_, rfl, aaD.symm⟩)))
    by_cases hk : k = s
    ·subst hk
     refine .inl ⟨z + 1, by rw [zdb, if_pos rfl]; rfl, Nat.succ_le_succ (Nat.zero_le _), Nat.succ_le_succ hz2⟩
    ·rw [zdb, if_neg hk]
     rcases hcs k with ⟨z', h1, h2, h3⟩ | ⟨h1, h2⟩
     ·exact .inl ⟨z', h1, h2, Nat.le_succ_of_le h3⟩
     ·refine .inr ⟨h1, ?_⟩
      rw [htk, List.mem_append, List.mem_singleton, not_or]
      exact ⟨h2, hk⟩
   ·rintro l H' ⟨cs, a12, hcl, hcs, rfl, rfl⟩
    refine ⟨zdm (ok.handled (Nat.succ_ne_zero _)) (Nat.le_refl _), zab ?_⟩
    have hcs' : ∀ s ∈ syms, ∃ z : Nat, dget cs s = some (.int z) ∧ 1 ≤ z := fun s hs => by
     rcases hcs s with ⟨z, h1, h2, _⟩ | ⟨_, h2⟩
     ·exact ⟨z, h1, h2⟩
     ·simp [hs] at h2
    clear hcs hcl
    refine zaa (sAsg ok hF rfl (zb7 fun nu hnu => ?_))
    have hnud : d ≠ nu := hnu.neD (upe hncd eD)
    have hnua : al ≠ nu := hnu.neD (upe hnca eA)
    have hnunc : nc ≠ nu := hnu.neD (zac _ _ _)
    have hnuD : H.D nu = none := (zak hnunc.symm).symm.trans hnu.d
    refine zaa (sAsg ok hF rfl (zb7 fun mp hmp => ?_))
    have hmpd : d ≠ mp := hmp.neD (upe hnud (upe hncd eD))
    have hmpa : al ≠ mp := hmp.neD (upe hnua (upe hnca eA))
    have hmpnu : nu ≠ mp := hmp.neD (zac _ _ _)
    have hmpnc : nc ≠ mp := hmp.neD (upe hnunc (zac _ _ _))
    have hmpD : H.D mp = none := (zak hmpnc.symm).symm.trans ((zak hmpnu.symm).symm.trans hmp.d)
    clear hnc hnu hmp
    refine zaa (zbn (zis (gBi ok W hF rfl rfl (by boot_by_name) (by decide) ⟨rfl, zag (zaq (gLoc ok hF rfl rfl (getA ok W eI (upe hmpd (upe hnud (upe hncd eD))) g1.2.1 rfl (zaf ⟨_, rfl, .inr ⟨_, rfl, ?_⟩⟩))))⟩)))
    refine za3 (fun i => zhv i) (syms.map V.str).length (Pi3 x al H nc cs nu mp) ⟨[], [], a12, none, none, by simp, by simp, fun k => ⟨0, rfl, by simp⟩, rfl, rfl⟩ ?_ ?_
    ·rintro i Q3 b3 l H' hi ⟨us, ms, a12, a15, a16, hul, hml, hus, rfl, rfl⟩
     have hi' : i < syms.length := by simpa using hi
     have hx : (syms.map V.str)[i]? = some (.str syms[i]) := by simp [hi']
     have hl1 := hl _ (List.getElem_mem hi')
     obtain ⟨z, hz1, hz2⟩ := hcs' syms[i] (List.getElem_mem _)
     have hi9 : i ≤ 100000 := by lia
     generalize syms[i] = s at hx hl1 hz1
     refine ⟨.tup [.int i, .str s], znz ok hx, ?_⟩
     refine zbg ok.inl rfl (tLoc ok.inl hF rfl (tLoc ok.inl hF rfl ?_))
     have eNC : ((((H.aD nc cs).aD nu us).aD mp ms) : Hp).D nc = some cs := upe hmpnc (upe hnunc (zac _ _ _))
     have eNU : ((((H.aD nc cs).aD nu us).aD mp ms) : Hp).D nu = some us := upe hmpnu (zac _ _ _)
     have eMP : ((((H.aD nc cs).aD nu us).aD mp ms) : Hp).D mp = some ms := zac _ _ _
     have eAL : ((((H.aD nc cs).aD nu us).aD mp ms) : Hp).D al = some [] := upe hmpa (upe hnua (upe hnca eA))
     have hG3 : ∀ a, ((((H.aD nc cs).aD nu us).aD mp ms) : Hp).G a = none := hG
     have k3 : ∀ {l : Loc} us' ms' a12 a15 a16, List.length us' ≤ i + 1 -> List.length ms' ≤ i + 1 -> (∀ k, (∃ z : Nat, (dget us' k).getD (.int 0) = .int z ∧ z ≤ i + 1)) -> l = PL x al none none (some (.ref nc)) a12 (some (.ref nu)) (some (.ref mp)) a15 a16 -> Q3 .next l ((((((H.aD nc cs).aD nu us).aD mp ms) : Hp).aD nu us').aD mp ms') := fun us' ms' b1 b2 b3' h1 h2 h3 h4 => b3.n ⟨us', ms', b1, b2, b3', h1, h2, h3, h4, by
      show (⟨_, _, _, _, _, _, _⟩ : Hp) = ⟨_, up (up (up (up (up H.D nc cs) nu us) mp ms) nu us') mp ms', _, _, _, _, _⟩
      rw [zuf hmpnu]⟩
     clear b3 hz2
     generalize ((((H.aD nc cs).aD nu us).aD mp ms) : Hp) = H3 at *
     refine zaa (sIf (bCmp (eSub (eLoc ok.inl hF rfl rfl) (eLoc ok.inl hF rfl rfl) fun J q => zc2 eNC hz1 q) eInt kGt) (fun J => ?_) fun J => ?_)
     ·obtain ⟨z', hz1', hz2'⟩ := hus s
      refine zaa (sAsg ok.inl hF rfl (zpx (zpv (gLoc ok.inl hF rfl rfl ⟨_, rfl, Nat.le_trans hl1 (by decide), zpw (goE (zj4 (eLoc ok.inl hF rfl rfl) (fun J q => zde eNU q) (zaj (eLoc ok.inl hF rfl rfl) (zaj eInt eNil)) (zcq ok.inl) fun Q q => zdf eNU (by rw [hz1']; exact q)) ?_)⟩))))
      refine ⟨z', rfl, Nat.lt_of_le_of_lt (Nat.log2_le_self _) (by simp; lia), zow z' (by lia), ?_⟩
      refine zaa (zae (goE (eBin (zj4 (eLoc ok.inl hF rfl rfl) (fun J q => zde eNU q) (zaj (eLoc ok.inl hF rfl rfl) (zaj eInt eNil)) (zcq ok.inl) fun Q q => zdf eNU (by rw [hz1']; exact q)) eInt fun J q => zjg q) (zdd (gLoc ok.inl hF rfl rfl (gLoc ok.inl hF rfl rfl (zb6 eNU (hG3 nu) (Nat.le_trans hul hi9) (zab ?_)))))))
      refine zaa (zae (goE (eTup (zaj (eLoc ok.inl hF rfl rfl) (zaj zt5 eNil))) (zdd (gLoc ok.inl hF rfl rfl (gLoc ok.inl hF rfl rfl (zb6 (upe hmpnu.symm eMP) (hG3 mp) (Nat.le_trans hml hi9) ?_))))))
      refine zaa (sIf (b := false) (bCmp (eLoc ok.inl hF rfl rfl) (eLoc ok.inl hF rfl rfl) fun J q => zev (kvs := []) (upe hmpa (upe hnua eAL)) q) (fun h => by cases h) fun J => zab (zab (k3 _ _ _ _ _ (Nat.le_trans (zcx _ _ _) (Nat.succ_le_succ hul)) (Nat.le_trans (zcx _ _ _) (Nat.succ_le_succ hml)) (fun k => ?_) rfl)))
      by_cases hk : k = s
      ·subst hk; exact ⟨z' + 1, by rw [zdb, if_pos rfl]; rfl, Nat.succ_le_succ hz2'⟩
      ·rw [zdb, if_neg hk]
       obtain ⟨z2, h1, h2⟩ := hus k
       exact ⟨z2, h1, Nat.le_succ_of_le h2⟩
     ·refine zaa (sA ok.inl hF rfl (eLoc ok.inl hF rfl rfl) (zab ?_))
      refine zaa (zae (goE (eTup (zaj (eLoc ok.inl hF rfl rfl) (zaj zt5 eNil))) (zdd (gLoc ok.inl hF rfl rfl (gLoc ok.inl hF rfl rfl (zb6 eMP (hG3 mp) (Nat.le_trans hml hi9) ?_))))))
      have k4 := fun {l : Loc} ms' a12 a15 a16 h2 => @k3 l us ms' a12 a15 a16 (Nat.le_succ_of_le hul) h2 fun k => (hus k).elim fun z2 h => ⟨z2, h.1, Nat.le_succ_of_le h.2⟩
      rw [ztz eNU] at k4
      exact zaa (sIf (b := false) (bCmp (eLoc ok.inl hF rfl rfl) (eLoc ok.inl hF rfl rfl) fun J q => zev (kvs := []) (upe hmpa eAL) q) (fun h => by cases h) fun J => zab (zab (k4 _ _ _ _ (Nat.le_trans (zcx _ _ _) (Nat.succ_le_succ hml)) rfl)))
    ·rintro l H' ⟨us, ms, a12, a15, a16, hul, hml, hus, rfl, rfl⟩
     refine ⟨zg0 ok rfl, zab ?_⟩
     refine zb8 (loc' := PL x al none none none none none (some (.ref mp)) none none) (H' := H) ?_ (by unfold PL; exact (by repeat (first | exact zap.refl _ | refine zap.same ?_ | refine zap.drop ?_))) ((subD hncD (hG nc)).trans ((subD (H := H.aD nc _) (upE hnunc.symm hnuD) (hG nu)).trans (subD (H := (H.aD nc _).aD nu _) (upE hmpnu.symm (upE hmpnc.symm hmpD)) (hG mp))))
     clear hul hml hus hcs' us ms a12 a15 a16 hncd hnca hncD hnud hnua hnunc hnuD hmpd hmpa hmpnu hmpnc hmpD
     refine zaa (zae (gLoc ok hF rfl rfl (zax (gLoc ok hF rfl rfl (setF ok W eI eD (hG d) (Nat.le_trans g3 (by decide)) fun f2 p2 => ?_)))))
     have k2 : f2.length ≤ 10 := Nat.le_trans p2.len (Nat.succ_le_succ g3)
     refine zaa (zae (za9 (zaf ⟨by decide, fun u hu => zax (gLoc ok hF rfl rfl (zq9 ok W eI (hG d) (Nat.le_trans k2 (by decide)) fun f3 p3 => ?_))⟩)))
     have k3 : f3.length ≤ 11 := Nat.le_trans p3.len (Nat.succ_le_succ k2)
     refine zaa (zae (zer (zax (gLoc ok hF rfl rfl (zq9 ok W eI (hG d) (Nat.le_trans k3 (by decide)) fun f4 p4 => ?_)))))
     refine zb8 (loc' := []) (H' := (H.aD d f4)) (zab (q f4 ?_)) (fun i X h => by simp at h) (subL (frD hu).2.l)
     exact ⟨p4.old (p3.old (p2.old g1.1)), p4.old (p3.old (p2.old g1.2.1)), p4.old (p3.old (p2.old g1.2.2.1)), p4.old (p3.old (p2.old g1.2.2.2))⟩
theorem zsq (ok : Ok F (n + 2)) (W : Wd (K P) F.c.base) {x d al : Addr} {num : Int} {nm : Str} {PV prec fn fi li : V} {syms : List Str} {Q : V -> Loc -> Hp -> Prop}
  (eI : H.I x = some (68, d)) (eD : H.D d = some []) (hG : ∀ a, H.G a = none) (eA : H.D al = some []) (hne : al ≠ d) (eP : asL H PV = some (syms.map .str)) (hz : syms.length ≤ 100) (hl : ∀ s ∈ syms, s.length ≤ 1000)
  (q : ∀ fs, PrF fs num nm syms prec -> Q .none loc (H.aD d fs)) :
  zco F 51 [.ref x, .int num, .str nm, PV, prec, fn, fi, li, .ref al] [] [] loc H Q := by
 refine zre ok W (fun fd hfd => ?_) eI eD hG eA hne eP hz hl q (fn := fn) (fi := fi) (li := li)
 intro vs ws B r1 r2 le
 apply r2.e0
 apply r1.e9
 intro a b c d e f g i j r
 cases hfd
 exact ⟨_, Looks.of_peek W.k rfl, r⟩
theorem zqi (ok : Ok F (n + 2)) (W : Wd (K P) F.c.base) {x d al : Addr} {num : Int} {nm : Str} {PV : V} {syms : List Str} {Q : V -> Loc -> Hp -> Prop}
  (eI : H.I x = some (68, d)) (eD : H.D d = some []) (hG : ∀ a, H.G a = none) (eA : H.D al = some []) (hne : al ≠ d) (eP : asL H PV = some (syms.map .str)) (hz : syms.length ≤ 100) (hl : ∀ s ∈ syms, s.length ≤ 1000)
  (q : ∀ fs, PrF fs num nm syms (.tup [.str "right", .int 0]) -> Q .none loc (H.aD d fs)) :
  zco F 51 [.ref x, .int num, .str nm, PV] ["aliases"] [.ref al] loc H Q := by
 refine zre ok W (fun fd hfd => ?_) eI eD hG eA hne eP hz hl q (fn := .none) (fi := .str (Str.ofString "")) (li := .int 0) (prec := .tup [.str "right", .int 0])
 intro vs ws B r1 r2 le
 apply r2.e1
 intro zv z1
 apply r1.e4
 intro v1 v2 v3 v4 a b c d
 cases hfd
 exact ⟨[_, _, _, _, _, _, _, _, _], Looks.of_peek W.k rfl, .cons a (.cons b (.cons c (.cons d (.cons (.tup (le _ _ (W.k 42 _ rfl)) (.cons (.str _ _ (zar _)) (.cons (.int _ _) .nil))) (.cons .none (.cons (.str _ _ (zar _)) (.cons (.int _ _) (.cons z1 .nil))))))))⟩
theorem idI {H : Hp} {x d : Addr} {p q fs} (hx : H.I x = none) (hd : H.D d = none) : (((((H.aI x p).aD d q).aD d fs).uI x).uD d) = H := by
 show Hp.mk _ (un (up (up _ _ _) _ _) _) _ _ (un (up _ _ _) _) _ _ = _
 rw [zd3, zjk hd, zjk hx]
theorem zsr (ok : Ok F (n + 3)) (W : Wd (K P) F.c.base) {al : Addr} {num : Int} {nm : Str} {PV prec fn fi li : V} {syms : List Str} {Q : V -> Loc -> Hp -> Prop}
  (hG : ∀ a, H.G a = none) (eA : H.D al = some []) (eP : asL H PV = some (syms.map .str)) (hz : syms.length ≤ 100) (hl : ∀ s ∈ syms, s.length ≤ 1000)
  (q : ∀ fs, PrF fs num nm syms prec -> Q (.inst 68 fs) loc H) : Call F (.ref 68) [.int num, .str nm, PV, prec, fn, fi, li, .ref al] loc H Q := by
 refine zed (zg7 ok W 51 fun A' x d ok' hx hd hlt => ?_)
 have hne : al ≠ d := hd.neD eA
 refine zsq (F := { F with A := A' }) ok' W (zac _ _ _) (zac _ _ _) hG (upe hne eA) hne eP hz hl fun fs hfs => ⟨rfl, _, _, Frz.inst (zac _ _ _) (zac _ _ _) (hG d), ?_⟩
 exact (idI hx.i hd.d).symm ▸ q fs hfs
theorem zqj (ok : Ok F (n + 3)) (W : Wd (K P) F.c.base) {al : Addr} {num : Int} {nm : Str} {PV : V} {syms : List Str} {Q : V -> Loc -> Hp -> Prop}
  (hG : ∀ a, H.G a = none) (eA : H.D al = some []) (eP : asL H PV = some (syms.map .str)) (hz : syms.length ≤ 100) (hl : ∀ s ∈ syms, s.length ≤ 1000)
  (q : ∀ fs, PrF fs num nm syms (.tup [.str "right", .int 0]) -> Q (.inst 68 fs) loc H) : zpj F (.ref 68) [.int num, .str nm, PV] ["aliases"] [.ref al] loc H Q := by
 refine zoi (zoh (K := K P) ok W.k (fI := 51) (by rfl) (by rfl) (by rfl) fun A' x d ok' hx hd hlt => ?_)
 have hne : al ≠ d := hd.neD eA
 refine zqi (F := { F with A := A' }) ok' W (zac _ _ _) (zac _ _ _) hG (upe hne eA) hne eP hz hl fun fs hfs => ⟨rfl, _, _, Frz.inst (zac _ _ _) (zac _ _ _) (hG d), ?_⟩
 exact (idI hx.i hd.d).symm ▸ q fs hfs
end
section
variable {P : Params} {F : Fx} {n : Nat} {loc : Loc} {H H' : Hp}
noncomputable abbrev Gr (H : Hp) (g : GA) (t : GT) : Prop := GrOk 215 236 H g t
theorem getG (ok : Ok F n) (W : Wd (K P) F.c.base) {g : GA} {t : GT} {name : Str} {Y : V} {Q : V -> Loc -> Hp -> Prop} (gr : Gr H g t) (hy : ∀ {fs}, Fld fs g t.start -> dget fs name = some Y) (hr : zfk Y = true) (q : Q Y loc H') (hI : H'.I = H.I := by rfl) (hD : H'.D = H.D := by rfl) (ho : zll (K P) 215 name = true := by rfl) : GetA F name (.ref g.g) loc H' Q := by
 obtain ⟨fs, efs, fld⟩ := gr.fs
 exact getA ok W (by rw [hI]; exact gr.I) (by rw [hD]; exact efs) (hy fld) hr q ho
theorem zhq (ok : Ok F n) (W : Wd (K P) F.c.base) {g : GA} {t : GT} {f : Addr} {name : Str} {Q : V -> List V -> Loc -> Hp -> Prop} (gr : Gr H g t) (hn : name ∉ zki) (q : Q (.ref f) [.ref g.g] loc H') (hI : H'.I = H.I := by rfl) (hD : H'.D = H.D := by rfl) (ho : zq0 (K P) 215 name f = true := by rfl) : MGet F name (.ref g.g) loc H' Q := by
 obtain ⟨fs, efs, fld⟩ := gr.fs
 exact getM ok W (by rw [hI]; exact gr.I) (by rw [hD]; exact efs) (fld.no _ hn) q ho
structure Bgn (H H' : Hp) (x d nm nd : Addr) (f : List (Str × V)) (Ds : List (Addr × List (Str × V))) (Ls : List (Addr × List V)) (Ps : List (Addr × List (Str × List Str))) (Ss : List (Addr × ((Str -> Bool) × Nat))) : Prop where
 I : H'.I x = some (215, d)
 N : H'.I nm = some (236, nd)
 dd : H'.D d = some f
 D : ∀ p ∈ Ds, H'.D p.1 = some p.2
 dn : (d :: Ds.map (·.1)).Nodup
 L : ∀ p ∈ Ls, H'.L p.1 = some p.2
 ln : (Ls.map (·.1)).Nodup
 P : ∀ p ∈ Ps, H'.P p.1 = some p.2
 S : ∀ p ∈ Ss, H'.S p.1 = some p.2
 G : ∀ a, H'.G a = none
 K : ∀ a xs, H.L a = some xs -> H'.L a = some xs
 fr : ∀ p ∈ Ds, H.Fresh p.1
 ext : Ext (fun a => a = d) H H'
section
variable {x d nm nd a : Addr} {f f' k k' : List (Str × V)} {Ds : List (Addr × List (Str × V))} {Ls : List (Addr × List V)} {Ps : List (Addr × List (Str × List Str))} {Ss : List (Addr × ((Str -> Bool) × Nat))} {xs : List V} {ps : List (Str × List Str)} {ss : (Str -> Bool) × Nat}
theorem Bgn.setd (b : Bgn H H' x d nm nd f Ds Ls Ps Ss) : Bgn H (H'.aD d f') x d nm nd f' Ds Ls Ps Ss :=
 ⟨b.I, b.N, zac _ _ _, fun p hp => upe (fun e => (List.nodup_cons.mp b.dn).1 (e ▸ List.mem_map.mpr ⟨p, hp, rfl⟩)) (b.D p hp), b.dn, b.L, b.ln, b.P, b.S, b.G, b.K, b.fr, b.ext.trans (extD (.inl rfl))⟩
theorem Bgn.newD (b : Bgn H H' x d nm nd f Ds Ls Ps Ss) (h : H'.Fresh a) : Bgn H (H'.aD a k) x d nm nd f ((a, k) :: Ds) Ls Ps Ss := by
 have h1 : d ≠ a := h.neD b.dd
 have h2 : ∀ p ∈ Ds, p.1 ≠ a := fun p hp => h.neD (b.D p hp)
 have h3 := List.nodup_cons.mp b.dn
 refine ⟨b.I, b.N, upe h1 b.dd, fun p hp => ?_, ?_, b.L, b.ln, b.P, b.S, b.G, b.K, fun p hp => ?_, b.ext.trans (extD (.inr h))⟩
 ·rcases List.mem_cons.mp hp with rfl | hp
  ·exact zac _ _ _
  ·exact upe (h2 p hp) (b.D p hp)
 ·show (d :: a :: Ds.map (·.1)).Nodup
  rw [List.nodup_cons, List.nodup_cons, List.mem_cons]
  refine ⟨fun z => z.elim h1 h3.1, fun z => ?_, h3.2⟩
  obtain ⟨p, hp, e⟩ := List.mem_map.mp z
  exact h2 p hp e
 ·rcases List.mem_cons.mp hp with rfl | hp
  ·exact b.ext.fresh h
  ·exact b.fr p hp
theorem Bgn.put (b : Bgn H H' x d nm nd f ((a, k) :: Ds) Ls Ps Ss) : Bgn H (H'.aD a k') x d nm nd f ((a, k') :: Ds) Ls Ps Ss := by
 have h3 := List.nodup_cons.mp b.dn
 have h4 := List.nodup_cons.mp h3.2
 have h1 : d ≠ a := fun e => h3.1 (e ▸ .head _)
 have hf := b.fr _ (.head _)
 refine ⟨b.I, b.N, upe h1 b.dd, fun p hp => ?_, b.dn, b.L, b.ln, b.P, b.S, b.G, b.K, fun p hp => ?_, fun c o => ?_⟩
 ·rcases List.mem_cons.mp hp with rfl | hp
  ·exact zac _ _ _
  ·exact upe (fun e => h4.1 (e ▸ List.mem_map.mpr ⟨p, hp, rfl⟩)) (b.D p (.tail _ hp))
 ·rcases List.mem_cons.mp hp with rfl | hp
  ·exact hf
  ·exact b.fr p (.tail _ hp)
 ·have hne : c ≠ a := by rintro rfl; exact hf o
  obtain ⟨o1, s1⟩ := b.ext c o
  refine ⟨?_, fun z => ?_⟩
  ·unfold Hp.Own at o1 ⊢; simpa only [zak hne] using o1
  ·obtain ⟨e1, e2, e3⟩ := s1 z
   exact ⟨e1, (zak hne).trans e2, e3⟩
theorem Bgn.newL (b : Bgn H H' x d nm nd f Ds Ls Ps Ss) (h : H'.Fresh a) : Bgn H (H'.aL a xs) x d nm nd f Ds (Ls ++ [(a, xs)]) Ps Ss := by
 have h2 : ∀ p ∈ Ls, p.1 ≠ a := fun p hp => h.neL (b.L p hp)
 refine ⟨b.I, b.N, b.dd, b.D, b.dn, fun p hp => ?_, ?_, b.P, b.S, b.G, fun c ys e => upe ((b.ext.fresh h).neL e) (b.K c ys e), b.fr, b.ext.trans (extL (.inr h))⟩
 ·rcases List.mem_append.mp hp with hp | hp
  ·exact upe (h2 p hp) (b.L p hp)
  ·rw [List.mem_singleton.mp hp]; exact zac _ _ _
 ·rw [List.map_append, List.nodup_append]
  refine ⟨b.ln, List.pairwise_singleton _ _, fun c hc e he z => ?_⟩
  obtain ⟨p, hp, e1⟩ := List.mem_map.mp hc
  rw [List.map_singleton, List.mem_singleton] at he
  exact h2 p hp (e1.trans (z.trans he))
theorem Bgn.newP (b : Bgn H H' x d nm nd f Ds Ls Ps Ss) (h : H'.Fresh a) : Bgn H (H'.aP a ps) x d nm nd f Ds Ls ((a, ps) :: Ps) Ss := by
 refine ⟨b.I, b.N, b.dd, b.D, b.dn, b.L, b.ln, fun p hp => ?_, b.S, b.G, b.K, b.fr, b.ext.trans (extP (.inr h))⟩
 rcases List.mem_cons.mp hp with rfl | hp
 ·exact zac _ _ _
 ·exact upe (h.neP (b.P p hp)) (b.P p hp)
theorem Bgn.newS (b : Bgn H H' x d nm nd f Ds Ls Ps Ss) (h : H'.Fresh a) : Bgn H (H'.aS a ss) x d nm nd f Ds Ls Ps ((a, ss) :: Ss) := by
 refine ⟨b.I, b.N, b.dd, b.D, b.dn, b.L, b.ln, b.P, fun p hp => ?_, b.G, b.K, b.fr, b.ext.trans (extS (.inr h))⟩
 rcases List.mem_cons.mp hp with rfl | hp
 ·exact zac _ _ _
 ·exact upe (h.neS (b.S p hp)) (b.S p hp)
theorem Bgn.go {M : Loc -> Hp -> Prop} (b : Bgn H H' x d nm nd f Ds Ls Ps Ss) (h : ∀ H', Bgn H H' x d nm nd f Ds Ls Ps Ss -> M loc H') : M loc H' := h _ b
end
noncomputable abbrev cel (t : Tab) : List (Addr × List V) := t.map fun e => (e.2.1, e.2.2)
theorem zqk {x d nm nd al pl pn pm ts nts fst fol pr us : Addr} {f nfs : List (Str × V)} {t : Tab}
  (b : Bgn H H' x d nm nd f [(pr, []), (fol, []), (fst, []), (nts, []), (ts, tof t), (pn, []), (al, []), (nd, nfs)] ((pl, [.none]) :: cel t) [(pm, [])] [(us, (fun J => false, 0))])
  (hal : dget nfs "aliases" = some (.ref al)) (hn : (kys t).Nodup) (hf : Fld f ⟨x, d, nm, nd, al, pl, pn, pm, ts, nts, fst, fol, pr, us⟩ .none) :
  Gr H' ⟨x, d, nm, nd, al, pl, pn, pm, ts, nts, fst, fol, pr, us⟩ ⟨t, [], [], [.none], [], [], [], [], (fun J => false, 0), .none⟩ := by
 have hD : ∀ a k, (a, k) ∈ [(pr, []), (fol, []), (fst, []), (nts, []), (ts, tof t), (pn, []), (al, []), (nd, nfs)] -> H'.D a = some k := fun a k h => b.D (a, k) h
 refine ⟨b.I, ⟨f, b.dd, hf⟩, b.N, ⟨nfs, hD _ _ (by simp), hal⟩, hD _ _ (by simp), b.L (pl, _) (.head _), b.P (pm, _) (.head _), ⟨hD _ _ (by simp), fun e he => b.L (e.2.1, e.2.2) (.tail _ (List.mem_map.mpr ⟨e, he, rfl⟩))⟩, ⟨hD _ _ (by simp [tof]), fun e h => nomatch h⟩, ⟨hD _ _ (by simp [tof]), fun e h => nomatch h⟩, hD _ _ (by simp), hD _ _ (by simp), hD _ _ (by simp), b.S (us, _) (.head _), b.G, ?_, ?_, hn, .nil, .nil⟩
 ·have := b.dn
  rw [List.nodup_cons] at this
  show (d :: [nd, al, pn, ts, nts, fst, fol, pr]).Nodup
  rw [List.nodup_cons]
  refine ⟨fun z => this.1 ?_, ((List.reverse_perm [nd, al, pn, ts, nts, fst, fol, pr]).nodup_iff).mp this.2⟩
  rw [← List.mem_reverse] at z
  exact z
 ·have := b.ln
  show (pl :: (adr t ++ ([] ++ []))).Nodup
  rw [List.append_nil, List.append_nil]
  rw [List.map_cons, List.map_map] at this
  exact this
theorem zql : ∀ (t : Tab), (∀ e ∈ t, e.2.2 = []) -> tcon t = (kys t).map fun k => (k, []) := by
 intro t ht
 unfold tcon kys
 rw [List.map_map]
 exact List.map_congr_left fun e he => by simp only [Function.comp]; rw [ht e he]
theorem zmi {t : Tab} {k : Str} {a : Addr} {pl : Addr} : (pl, [V.none]) :: cel (t ++ [(k, a, [])]) = ((pl, [V.none]) :: cel t) ++ [(a, [])] := by simp [cel]
theorem zmj {t : Tab} {k : Str} {a : Addr} (h : k ∉ kys t) : dput (tof t) k (.ref a) = tof (t ++ [(k, a, [])]) := by
 rw [zik (by rw [zby, zb9.mpr h]; rfl)]; simp [tof]
inductive Gi1 (H : Hp) (x : Addr) (d : Addr) (TV : V) (ns : List Str) (nm : Addr) (nd : Addr) (al : Addr) (nfs : List (Str × V)) (pl : Addr) (pn : Addr) (pm : Addr) (ts : Addr) (f5 : List (Str × V)) (i : Nat) (l : Loc) (H' : Hp) : Prop
 | mk (t : Tab) (a3 : Option V) (_ : kys t = ns.take i) (_ : (∀ e ∈ t, e.2.2 = [])) (_ : Bgn H H' x d nm nd f5 [(ts, tof t), (pn, []), (al, []), (nd, nfs)] ((pl, [V.none]) :: cel t) [(pm, [])] []) (_ : l = [some (.ref x), some TV, some .none, a3, none, none]) : Gi1 H x d TV ns nm nd al nfs pl pn pm ts f5 i l H'
theorem zss (ok : Ok F (n + 3)) (W : Wd (K P) F.c.base) {x d : Addr} {TV : V} {ns : List Str} {Q : V -> Loc -> Hp -> Prop} (eI : H.I x = some (215, d)) (eD : H.D d = some []) (hG : ∀ a, H.G a = none) (eT : asL H TV = some (ns.map .str)) (hn : ns.Nodup) (herr : Str.ofString "error" ∉ ns) (hz : ns.length ≤ 100)
  (q : ∀ g t H', g.g = x -> g.d = d -> Gr H' g t -> tcon t.tT = (ns ++ [Str.ofString "error"]).map (fun k => (k, [])) -> t.tN = [] -> t.tR = [] -> t.ps = [.none] -> t.pm = [] -> t.fst = [] -> t.fol = [] -> t.pr = [] -> t.ups = (fun J => false, 0) -> t.start = .none -> Ext (fun a => a = d) H H' -> Q .none loc H') :
  zco F 106 [.ref x, TV] [] [] loc H Q := by
 refine defP ok W ["self", "terminals", "names"] (Vs := [.ref x, TV, .none]) rfl rfl rfl rfl rfl rfl ?_ rfl ?_
 ·intro vs ws B r1 r2 le
  apply r2.e0
  apply r1.e2
  intro _ _ a b
  exact ⟨[_, _, .none], Looks.of_peek W.k rfl, .cons a (.cons b (.cons .none .nil))⟩
 ·intro F' ok tp W hF
  refine zaa (zae (zgj (zay (gLoc ok hF rfl rfl (zer (zm3 rfl rfl ⟨fun J => ?_, fun h => by cases h⟩))))))
  refine zav (zr8 ok W hF rfl rfl (.ref 236) (zaf ⟨zc9 ok W, zg7 ok W 233 fun A' nm nd ok' hnm hnd hlt => ?_⟩))
  have hne : nd ≠ nm := fun e => by rw [e] at hlt; exact absurd hlt (Nat.lt_irrefl _)
  refine zsp (F := { F' with A := A' }) ok' W (zac _ _ _) (hG nd) fun al nfs haln hal hal3 => ⟨rfl, ?_⟩
  have b : Bgn H (((H.aI nm (236, nd)).aD al []).aD nd nfs) x d nm nd [] [(al, []), (nd, nfs)] [] [] [] := by
   have hf := (frI hal).2
   have h1 : d ≠ nd := hnd.neD eD
   have h2 : d ≠ al := hf.neD eD
   refine ⟨upe (hnm.neI eI) eI, zac _ _ _, upe h1 (upe h2 eD), fun p hp => ?_, by simp [h1, h2, haln], fun p hp => (by cases hp), List.nodup_nil, fun p hp => (by cases hp), fun p hp => (by cases hp), hG, fun J J e => e, fun p hp => ?_, ((extI (.inr hnm)).trans (extD (.inr hal))).trans (extD (.inr (fun o => ?_)))⟩
   ·rcases List.mem_cons.mp hp with rfl | hp
    ·exact upe haln (zac _ _ _)
    ·rw [List.mem_singleton.mp hp]; exact zac _ _ _
   ·rcases List.mem_cons.mp hp with rfl | hp
    ·exact hf
    ·rw [List.mem_singleton.mp hp]; exact hnd
   ·refine hnd ?_
    unfold Hp.Own at o ⊢
    simpa only [zak haln.symm, zak hne] using o
  refine zax (gLoc ok hF rfl rfl ?_)
  refine b.go (M := fun l H => SetA F' _ (.ref x) (.ref nm) l H _) fun H1 b => ?_
  clear hal haln hnm hnd hne hlt
  refine setF ok W b.I b.dd (b.G d) (by decide) fun f1 p1 => ?_
  refine b.setd.go (M := fun l H => WSs F' _ l H _) fun H1 b => ?_
  have l1 : f1.length ≤ 1 := p1.len
  refine zaa (zae (za9 (zag (zer (zaf ⟨by simp, fun pl hpl => zax (gLoc ok hF rfl rfl (setF ok W b.I b.dd (b.G d) (Nat.le_trans l1 (by decide)) fun f2 p2 => (b.newL hpl).setd.go (M := fun l H => WSs F' _ l H _) fun H1 b => ?_))⟩)))))
  have l2 : f2.length ≤ 2 := Nat.le_trans p2.len (Nat.succ_le_succ l1)
  refine zaa (zae (zb7 fun pn hpn => zax (gLoc ok hF rfl rfl (setF ok W b.I (b.newD hpn).dd (b.G d) (Nat.le_trans l2 (by decide)) fun f3 p3 => (b.newD hpn).setd.go (M := fun l H => WSs F' _ l H _) fun H1 b => ?_))))
  have l3 : f3.length ≤ 3 := Nat.le_trans p3.len (Nat.succ_le_succ l2)
  refine zaa (zae (zn9 fun pm hpm => zax (gLoc ok hF rfl rfl (setF ok W b.I b.dd (b.G d) (Nat.le_trans l3 (by decide)) fun f4 p4 => (b.newP hpm).setd.go (M := fun l H => WSs F' _ l H _) fun H1 b => ?_))))
  have l4 : f4.length ≤ 4 := Nat.le_trans p4.len (Nat.succ_le_succ l3)
  refine zaa (zae (zb7 fun ts hts => zax (gLoc ok hF rfl rfl (setF ok W b.I (b.newD hts).dd (b.G d) (Nat.le_trans l4 (by decide)) fun f5 p5 => (b.newD hts).setd.go (M := fun l H => WSs F' _ l H _) fun H1 b => ?_))))
  have l5 : f5.length ≤ 5 := Nat.le_trans p5.len (Nat.succ_le_succ l4)
  have h5 := p5.here
  have fld : dget f5 "names" = some (.ref nm) ∧ dget f5 "Productions" = some (.ref pl) ∧ dget f5 "Prodnames" = some (.ref pn) ∧ dget f5 "Prodmap" = some (.ref pm) ∧ ∀ k, k ∉ zki -> dget f5 k = none := by
   refine ⟨p5.old (p4.old (p3.old (p2.old p1.here))), p5.old (p4.old (p3.old p2.here)), p5.old (p4.old p3.here), p5.old p4.here, fun k hk => ?_⟩
   have hk' : k ≠ "names" ∧ k ≠ "Productions" ∧ k ≠ "Prodnames" ∧ k ≠ "Prodmap" ∧ k ≠ "Terminals" ∧ k ≠ "Nonterminals" ∧ k ≠ "First" ∧ k ≠ "Follow" ∧ k ≠ "Precedence" ∧ k ≠ "UsedPrecedence" ∧ k ≠ "Start" := by
    simpa [zki] using hk
   obtain ⟨k1, k2, k3, k4, k5, _⟩ := hk'
   rw [p5.there k k5, p4.there k k4, p3.there k k3, p2.there k k2, p1.there k k1]; rfl
  clear p1 p2 p3 p4 p5 l1 l2 l3 l4 hpl hpn hpm hts
  -- the tokens
  refine zaa (zbn (zcj (gLoc ok hF rfl rfl ⟨_, zeg eT b.K, ?_⟩)))
  refine za3 (fun i => zau i) (ns.map V.str).length (Gi1 H x d TV ns nm nd al nfs pl pn pm ts f5) ⟨[], none, by simp [kys], (fun e h => nomatch h), b, rfl⟩ ?_ ?_
  ·clear b
   rintro i Q1 b1 l H' hi ⟨t, a3, hk, he, b, rfl⟩
   have hi' : i < ns.length := by simpa using hi
   have hkn : ns[i] ∉ kys t := by
    rw [hk]
    intro hm
    obtain ⟨j, hj, e⟩ := List.mem_take_iff_getElem.mp hm
    exact (List.pairwise_iff_getElem.mp hn) j i (by lia) hi' (by lia) e
   have htk : ns.take (i + 1) = ns.take i ++ [ns[i]] := zao hi'
   have hlen : (tof t).length ≤ 100 := by
    have : (tof t).length = (ns.take i).length := by rw [← hk]; simp [tof, kys]
    rw [this, List.length_take]; lia
   have hx : (ns.map V.str)[i]? = some (.str ns[i]) := by simp [hi']
   generalize ns[i] = s at hkn htk hx
   refine ⟨.str s, zbh (zeg eT b.K) hx, tLoc ok.inl hF rfl ?_⟩
   refine zaa (zae (za9 (zaf ⟨by simp, fun a ha => zdd (zaq (gLoc ok.inl hF rfl rfl (getA ok.inl W b.I b.dd h5 rfl (gLoc ok.inl hF rfl rfl (zb6 (b.D (ts, tof t) (.head _)) (b.G ts) (show (tof t).length ≤ 100000 by lia) (zab (b1.n ⟨t ++ [(s, a, [])], _, ?_, ?_, ?_, rfl⟩)))))))⟩)))
   ·rw [htk, ← hk]; simp [kys]
   ·intro e he'
    rcases List.mem_append.mp he' with h | h
    ·exact he e h
    ·rw [List.mem_singleton.mp h]
   ·rw [zmi, ← zmj hkn]
    exact (b.newL ha).put
  ·clear b
   rintro l H' ⟨t, a3, hk, he, b, rfl⟩
   refine ⟨zan (ok.handled (Nat.succ_ne_zero _)) (zeg eT b.K) (Nat.le_refl _), zab ?_⟩
   have hk : kys t = ns := by rw [hk, List.length_map, List.take_length]
   have hlen : (tof t).length ≤ 100 := by
    have : (tof t).length = ns.length := by rw [← hk]; simp [tof, kys]
    lia
   have hkn : Str.ofString "error" ∉ kys t := by rw [hk]; exact herr
   refine zaa (zae (za9 (zaf ⟨by simp, fun a ha => zdd (zaq (gLoc ok hF rfl rfl (getA ok W b.I b.dd h5 rfl (zdw (zb6 (b.D (ts, tof t) (.head _)) (b.G ts) (show (tof t).length ≤ 100000 by lia) ?_)))))⟩)))
   rw [zmj hkn]
   have b2 := (b.newL (xs := []) ha).put (k' := tof (t ++ [(Str.ofString "error", a, [])]))
   rw [← zmi (k := Str.ofString "error")] at b2
   have hc : tcon (t ++ [(Str.ofString "error", a, [])]) = (ns ++ [Str.ofString "error"]).map fun k => (k, []) := by
    rw [zql, show kys (t ++ [(Str.ofString "error", a, [])]) = ns ++ [Str.ofString "error"] by rw [← hk]; simp [kys]]
    intro e he'
    rcases List.mem_append.mp he' with h | h
    ·exact he e h
    ·rw [List.mem_singleton.mp h]
   have hkk : (kys (t ++ [(Str.ofString "error", a, [])])).Nodup := by
    rw [show kys (t ++ [(Str.ofString "error", a, [])]) = ns ++ [Str.ofString "error"] by rw [← hk]; simp [kys], List.nodup_append]
    refine ⟨hn, by simp, ?_⟩
    intro b hb c hc
    simp at hc; subst hc
    exact fun e => herr (e ▸ hb)
   generalize t ++ [(Str.ofString "error", a, [])] = t at b2 hc hkk
   refine b2.go (M := fun l H => WSs F' _ l H _) fun H1 b => ?_
   clear hk he hlen hkn b2 ha
   refine zaa (zae (zb7 fun nts hnts => zax (gLoc ok hF rfl rfl (setF ok W b.I (b.newD hnts).dd (b.G d) (Nat.le_trans l5 (by decide)) fun f6 p6 => (b.newD hnts).setd.go (M := fun l H => WSs F' _ l H _) fun H1 b => ?_))))
   have l6 : f6.length ≤ 6 := Nat.le_trans p6.len (Nat.succ_le_succ l5)
   refine zaa (zae (zb7 fun fst hfst => zax (gLoc ok hF rfl rfl (setF ok W b.I (b.newD hfst).dd (b.G d) (Nat.le_trans l6 (by decide)) fun f7 p7 => (b.newD hfst).setd.go (M := fun l H => WSs F' _ l H _) fun H1 b => ?_))))
   have l7 : f7.length ≤ 7 := Nat.le_trans p7.len (Nat.succ_le_succ l6)
   refine zaa (zae (zb7 fun fol hfol => zax (gLoc ok hF rfl rfl (setF ok W b.I (b.newD hfol).dd (b.G d) (Nat.le_trans l7 (by decide)) fun f8 p8 => (b.newD hfol).setd.go (M := fun l H => WSs F' _ l H _) fun H1 b => ?_))))
   have l8 : f8.length ≤ 8 := Nat.le_trans p8.len (Nat.succ_le_succ l7)
   refine zaa (zae (zb7 fun pr hpr => zax (gLoc ok hF rfl rfl (setF ok W b.I (b.newD hpr).dd (b.G d) (Nat.le_trans l8 (by decide)) fun f9 p9 => (b.newD hpr).setd.go (M := fun l H => WSs F' _ l H _) fun H1 b => ?_))))
   have l9 : f9.length ≤ 9 := Nat.le_trans p9.len (Nat.succ_le_succ l8)
   refine zaa (zae (zav (gBi ok W hF rfl rfl (by boot_by_name) (by decide) (zaf ⟨zcq ok, zjr fun us hus => zax (gLoc ok hF rfl rfl (setF ok W b.I b.dd (b.G d) (Nat.le_trans l9 (by decide)) fun f10 p10 => (b.newS hus).setd.go (M := fun l H => WSs F' _ l H _) fun H1 b => ?_))⟩))))
   have l10 : f10.length ≤ 10 := Nat.le_trans p10.len (Nat.succ_le_succ l9)
   refine zaa (zae (zer (zax (gLoc ok hF rfl rfl (setF ok W b.I b.dd (b.G d) (Nat.le_trans l10 (by decide)) fun f11 p11 => b.setd.go (M := fun l H => WSs F' _ l H _) fun H1 b => ?_)))))
   have l11 : f11.length ≤ 11 := Nat.le_trans p11.len (Nat.succ_le_succ l10)
   obtain ⟨e1, e2, e3, e4, e5⟩ := fld
   refine zab (q ⟨x, d, nm, nd, al, pl, pn, pm, ts, nts, fst, fol, pr, us⟩ ⟨t, [], [], [.none], [], [], [], [], (fun J => false, 0), .none⟩ _ rfl rfl (zqk b hal3 hkk ?_) hc rfl rfl rfl rfl rfl rfl rfl rfl rfl b.ext)
   have o6 : ∀ {k : Str} {Y : Option V}, dget f5 k = Y -> k ≠ "Nonterminals" -> k ≠ "First" -> k ≠ "Follow" -> k ≠ "Precedence" -> k ≠ "UsedPrecedence" -> k ≠ "Start" -> dget f11 k = Y := fun e k1 k2 k3 k4 k5 k6 => (p11.there _ k6).trans ((p10.there _ k5).trans ((p9.there _ k4).trans ((p8.there _ k3).trans ((p7.there _ k2).trans ((p6.there _ k1).trans e)))))
   refine ⟨by lia, o6 e1 (by decide) (by decide) (by decide) (by decide) (by decide) (by decide), o6 e2 (by decide) (by decide) (by decide) (by decide) (by decide) (by decide), o6 e3 (by decide) (by decide) (by decide) (by decide) (by decide) (by decide), o6 e4 (by decide) (by decide) (by decide) (by decide) (by decide) (by decide), o6 h5 (by decide) (by decide) (by decide) (by decide) (by decide) (by decide), p11.old (p10.old (p9.old (p8.old (p7.old p6.here)))), p11.old (p10.old (p9.old (p8.old p7.here))), p11.old (p10.old (p9.old p8.here)), p11.old (p10.old p9.here), p11.old p10.here, p11.here, fun k hk => ?_⟩
   have hk' : k ≠ "names" ∧ k ≠ "Productions" ∧ k ≠ "Prodnames" ∧ k ≠ "Prodmap" ∧ k ≠ "Terminals" ∧ k ≠ "Nonterminals" ∧ k ≠ "First" ∧ k ≠ "Follow" ∧ k ≠ "Precedence" ∧ k ≠ "UsedPrecedence" ∧ k ≠ "Start" := by
    simpa [zki] using hk
   obtain ⟨k1, k2, k3, k4, k5, k6, k7, k8, k9, k10, k11⟩ := hk'
   exact o6 (e5 k hk) k6 k7 k8 k9 k10 k11
end
section
variable {P : Params} {F : Fx} {n : Nat} {loc : Loc} {H : Hp}
noncomputable def rm (p : Str -> Bool) (l : List Str) : Option Str := l.reverse.find? p
theorem zox {p : Str -> Bool} {l : List Str} {j : Nat} (h : j < l.length) : rm p (l.take (j + 1)) = if p l[j] then some l[j] else rm p (l.take j) := by
 unfold rm
 rw [List.take_add_one, List.getElem?_eq_getElem h]
 simp only [Option.toList_some, List.reverse_append, List.reverse_cons, List.reverse_nil, List.nil_append, List.singleton_append, List.find?_cons]
 split <;> simp_all
noncomputable def zuz : Option Str -> V
 | none => .none
 | some s => .str s
theorem zst (ok : Ok F (n + 1)) (W : Wd (K P) F.c.base) {SV : V} {ts : Addr} {kvs : List (Str × V)} {syms : List Str} {Q : V -> Loc -> Hp -> Prop} (eS : asL H SV = some (syms.map .str)) (eT : H.D ts = some kvs) (hz : syms.length ≤ 1000)
  (q : Q (zuz (rm (fun s => (dget kvs s).isSome) syms)) loc H) : Call F (.ref 79) [SV, .ref ts] loc H Q := by
 refine zbv (defP ok W ["symbols", "terminals"] (Vs := [SV, .ref ts]) rfl rfl rfl rfl rfl rfl ?_ rfl ?_)
 ·intro vs ws B r1 r2 le
  apply r2.e0
  apply r1.e2
  intro _ _ a b
  exact ⟨[_, _], Looks.of_peek W.k rfl, .cons a (.cons b .nil)⟩
 ·intro F' ok tp W hF
  have hz' : (syms.map V.str).length ≤ 1000000 := by rw [List.length_map]; lia
  refine zaa (sAsg ok hF rfl (zcr (zav (gBi ok W hF rfl rfl (by boot_by_name) (by decide) (zag (gLoc ok hF rfl rfl (zaf ⟨zcq ok, zgl eS hz' (zbu (zq7 ?_))⟩)))))))
  rw [List.length_map]
  refine zaa (zly (fun k l H' => k ≤ syms.length ∧ rm (fun s => (dget kvs s).isSome) syms = rm (fun s => (dget kvs s).isSome) (syms.take k) ∧ l = [some SV, some (.ref ts), some (.int ((k : Int) - 1)), none] ∧ H' = H) syms.length ⟨Nat.le_refl _, by rw [List.take_length], rfl, rfl⟩ ?_)
  rintro k l H' ⟨hk, hr, rfl, rfl⟩
  refine zay (gLoc ok.inl hF rfl rfl (zbu (ztr ⟨fun h => ?_, fun h => ?_⟩)))
  ·have h0 : 1 ≤ k := by have := of_decide_eq_true h; lia
   obtain ⟨j, rfl⟩ : ∃ j, k = j + 1 := ⟨k - 1, by lia⟩
   have hj : j < syms.length := by lia
   have hx : (syms.map V.str)[(((j + 1 : Nat) : Int) - 1).toNat]? = some (.str syms[j]) := by
    have : (((j + 1 : Nat) : Int) - 1).toNat = j := by lia
    rw [this]; simp [hj]
   have m0 : (0 : Int) ≤ ((j + 1 : Nat) : Int) - 1 := by lia
   have m1 : ((j + 1 : Nat) : Int) - 1 < 1000000 := by lia
   refine zaa (zjf (zay (zat (gLoc ok.inl hF rfl rfl (gLoc ok.inl hF rfl rfl (zb4 eS m0 m1 hx (gLoc ok.inl hF rfl rfl (zev eT ⟨fun hp => ?_, fun hp => ?_⟩))))))))
   ·refine zaa (zbc (zat (gLoc ok.inl hF rfl rfl (gLoc ok.inl hF rfl rfl (zb4 eS m0 m1 hx ?_)))))
    rw [hr, zox hj, if_pos hp] at q
    exact q
   ·refine zab (zaa (sAug ok.inl hF rfl rfl (zbu (zrq (zab ⟨j, Nat.lt_succ_self _, by lia, ?_, ?_, rfl⟩)))))
    ·rw [hr, zox hj, if_neg (by rw [hp]; decide)]
    ·have : ((j + 1 : Nat) : Int) - 1 - 1 = (j : Int) - 1 := by lia
     rw [this]; rfl
  ·have h0 : k = 0 := by have := of_decide_eq_false h; lia
   subst h0
   refine zab (zaa (zbc (zer ?_)))
   rw [hr] at q
   exact q
end
section
variable {P : Params} {F : Fx} {n : Nat} {loc : Loc} {H : Hp}
noncomputable abbrev apNm : List (Str × NameKind) := [("self", .local), ("prodname", .local), ("syms", .local), ("func", .local), ("file", .local), ("line", .local), ("n", .local), ("s", .local), ("c", .local), ("precname", .local), ("prodprec", .local), ("map", .local), ("pnumber", .local), ("t", .local), ("p", .local), ("GrammarError", .globalImplicit), ("enumerate", .globalImplicit), ("len", .globalImplicit), ("rightmost_terminal", .globalImplicit), ("tuple", .globalImplicit), ("Production", .globalImplicit), ("KeyError", .globalImplicit)]
noncomputable def AL (x : Addr) (h : Str) (S : List V) (a6 a7 a8 a9 a10 a11 a12 a13 a14 : Option V) : Loc := [some (.ref x), some (.str h), some (.list S), some .none, some (.str (Str.ofString "")), some (.int 0), a6, a7, a8, a9, a10, a11, a12, a13, a14, none, none, none, none, none, none, none]
inductive Ap3 (H : Hp) (g : GA) (t : GT) (h : Str) (syms : List Str) (pv : V) (a6 : Option V) (a7 : Option V) (a8 : Option V) (a9 : Option V) (l : Loc) (H' : Hp) : Prop
 | mk (t1 : GT) (_ : ApSt 215 236 H g t 1001 (tcon t.tT, za2 (tcon t.tN) h) H' t1) (_ : l = AL g.g h (syms.map .str) a6 a7 a8 a9 (some pv) (some (ze3 (h, syms))) (some (.int t.ps.length)) none none) : Ap3 H g t h syms pv a6 a7 a8 a9 l H'
inductive Ap4 (H : Hp) (g : GA) (t : GT) (h : Str) (syms : List Str) (pv : V) (a6 : Option V) (a7 : Option V) (a8 : Option V) (a9 : Option V) (i : Nat) (l : Loc) (H' : Hp) : Prop
 | mk (t1 : GT) (a13 : Option V) (_ : ApSt 215 236 H g t (1001 + 2 * i) (za8 (.int t.ps.length) (tcon t.tT, za2 (tcon t.tN) h) (syms.take i)) H' t1) (_ : l = AL g.g h (syms.map .str) a6 a7 a8 a9 (some pv) (some (ze3 (h, syms))) (some (.int t.ps.length)) a13 none) : Ap4 H g t h syms pv a6 a7 a8 a9 i l H'
inductive Ap5 (H : Hp) (g : GA) (t : GT) (h : Str) (syms : List Str) (pv : V) (a6 : Option V) (a7 : Option V) (a8 : Option V) (a9 : Option V) (i : Nat) (hi' : i < syms.length) (T : List (Str × List V)) (N : List (Str × List V)) (l : Loc) (H' : Hp) : Prop
 | mk (t2 : GT) (_ : ApSt 215 236 H g t (1001 + 2 * i + 1) (T, za2 N syms[i]) H' t2) (_ : l = AL g.g h (syms.map .str) a6 a7 a8 a9 (some pv) (some (ze3 (h, syms))) (some (.int t.ps.length)) (some (.str syms[i])) none) : Ap5 H g t h syms pv a6 a7 a8 a9 i hi' T N l H'
theorem zsu (ok : Ok F (n + 4)) (tp : Top F) (W : Wd (K P) F.c.base) (hF : zah F apNm []) {g : GA} {t : GT} {h : Str} {syms : List Str} {pv : V} {a6 a7 a8 a9 : Option V} {Q : Fl -> Loc -> Hp -> Prop} (gr : Gr H g t) (hl : ∀ s ∈ syms, s.length ≤ 1000) (nd : (h, syms) ∉ t.pm) (sz : syms.length ≤ 20) (szt : Sz 1000 t)
  (q : ∀ t' H' fs l, Gr H' g t' -> Ext (foot g t) H H' -> zdr H g t t' -> zkj t t' -> PrF fs (t.ps.length : Nat) h syms pv -> t'.ps = t.ps ++ [.inst 68 fs] -> t'.pm = t.pm ++ [(h, syms)] →
   (tcon t'.tT, tcon t'.tN) = za8 (.int (t.ps.length : Nat)) (tcon t.tT, za2 (tcon t.tN) h) syms -> tcon t'.tR = zbd (za2 (tcon t.tR) h) h (.inst 68 fs) -> Q .next l H') :
  WSs F ((fnB (tm 6 4)).drop 6) (AL g.g h (syms.map .str) a6 a7 a8 a9 (some pv) (some (ze3 (h, syms))) none none none) H Q := by
 have hz' : (syms.map V.str).length ≤ 1000000 := za1 sz
 refine zaa (sA ok hF rfl (eLen ok W hF rfl rfl (zbt (eLoc ok hF rfl rfl) fun J q => getG ok W gr Fld.prods rfl q) (show asL H (.ref g.prods) = some t.ps from gr.ps) rfl (Nat.le_trans szt.ps (by decide))) ?_)
 -- the name of the rule
 have st0 : ApSt 215 236 H g t 1000 (tcon t.tT, tcon t.tN) H t := ⟨gr, Ext.refl H, zdr.refl H g t, szt, rfl, rfl, rfl, ⟨rfl, rfl, rfl, rfl, rfl⟩, rfl⟩
 refine za0 (Ap3 H g t h syms pv a6 a7 a8 a9) (fun Q3 b3 => sIf (bCmp (eLoc ok hF rfl rfl) (zbt (eLoc ok hF rfl rfl) fun J q => getG ok W gr Fld.nts rfl q) fun J q => zec gr.tN.dict q) (fun hh => ?_) fun hh => ?_) ?_
 ·have hk : h ∉ kys t.tN := by
   intro hm
   obtain ⟨a, xs, e⟩ := zd4 hm
   rw [zby, e] at hh; cases hh
  refine zaa (zae (za9 (zaf ⟨by simp, fun a ha => zdd (goE (zbt (eLoc ok hF rfl rfl) fun J q => getG ok W gr Fld.nts rfl q) (gLoc ok hF rfl rfl (zb6 gr.tN.dict (gr.gn _) (zk4 szt.N) (zab ?_))))⟩)))
  exact b3.n ⟨_, st0.keyN hk ha, rfl⟩
 ·have hk : h ∈ kys t.tN := by
   apply Classical.byContradiction
   intro hm
   rw [zby, zb9.mpr hm] at hh; cases hh
  refine zab (b3.n ⟨t, ?_, rfl⟩)
  rw [zfx (by rw [zal]; exact hk)]
  exact st0.mono (by decide)
 rintro l H' ⟨t1, st1, rfl⟩
 -- the signs
 refine zaa (zne (eLoc ok hF rfl rfl) rfl ?_)
 refine za3 (fun i => zau i) (syms.map V.str).length (Ap4 H g t h syms pv a6 a7 a8 a9) ⟨t1, none, st1, rfl⟩ ?_ ?_
 ·rintro i Q4 b4 l H' hi ⟨t1, a13, st, rfl⟩
  have hi' : i < syms.length := by simpa using hi
  have hi2 : 1001 + 2 * i ≤ 1041 := Nat.add_le_add_left (Nat.mul_le_mul_left 2 (Nat.le_trans (Nat.le_of_lt hi') sz)) 1001
  refine ⟨.str syms[i], zbh (xs := syms.map .str) rfl (by simp [hi']), tLoc ok.inl hF rfl ?_⟩
  have hnext : syms.take (i + 1) = syms.take i ++ [syms[i]] := zao hi'
  generalize hu : za8 (V.int t.ps.length) (tcon t.tT, za2 (tcon t.tN) h) (syms.take i) = u at st
  obtain ⟨T, N⟩ := u
  have hT := st.fldT syms[i]
  have hN := st.fldN syms[i]
  have inT : ∀ {d : List (Str × V)}, d = tof t1.tT -> ((dget d syms[i]).isSome = true ↔ syms[i] ∈ kys t1.tT) := by
   rintro d rfl
   rw [zby, Option.isSome_map]
   constructor
   ·intro hh
    apply Classical.byContradiction
    intro hm
    rw [zb9.mpr hm] at hh; cases hh
   ·intro hk
    obtain ⟨a, xs, e⟩ := zd4 hk
    rw [e]; rfl
  refine zaa (sIf (bCmp (eLoc ok.inl hF rfl rfl) (zbt (eLoc ok.inl hF rfl rfl) fun J q => getG ok.inl W st.gr Fld.ts rfl q) fun J q => zev st.gr.tT.dict q) (fun hh => ?_) fun hh => ?_)
  ·have hk := (inT rfl).mp hh
   obtain ⟨a, xs, e⟩ := zd4 hk
   obtain ⟨e1, e2⟩ := st.gr.tT.at_ e
   refine zaa (sApp ok.inl (eSub (zbt (eLoc ok.inl hF rfl rfl) fun J q => getG ok.inl W st.gr Fld.ts rfl q) (eLoc ok.inl hF rfl rfl) fun J q => zc2 st.gr.tT.dict e1 q) e2 (eLoc ok.inl hF rfl rfl) (Nat.le_trans (st.sz.lT _ (zbk e)) (Nat.le_trans hi2 (by decide))) (zab (zab ?_)))
   refine b4.n ⟨{ t1 with tT := tset t1.tT a (xs ++ [V.int t.ps.length]) }, _, ?_, rfl⟩
   rw [hnext, zdo, hu, show za8 (V.int t.ps.length) (T, N) [syms[i]] = (zbd T syms[i] (V.int t.ps.length), N) from if_pos (hT.mpr hk)]
   exact (st.useT e).mono (Nat.le_succ _)
  ·have hk : syms[i] ∉ kys t1.tT := fun hm => by rw [(inT rfl).mpr hm] at hh; cases hh
   have zjd : za8 (V.int t.ps.length) (T, N) [syms[i]] = (T, zbd (za2 N syms[i]) syms[i] (V.int t.ps.length)) := if_neg (fun hm => hk (hT.mp hm))
   refine za0 (Ap5 H g t h syms pv a6 a7 a8 a9 i hi' T N) (fun Q5 b5 => sIf (bCmp (eLoc ok.inl hF rfl rfl) (zbt (eLoc ok.inl hF rfl rfl) fun J q => getG ok.inl W st.gr Fld.nts rfl q) fun J q => zec st.gr.tN.dict q) (fun hh => ?_) fun hh => ?_) ?_
   ·have hkn : syms[i] ∉ kys t1.tN := by
     intro hm
     obtain ⟨a, xs, e⟩ := zd4 hm
     rw [zby, e] at hh; cases hh
    refine zaa (zae (za9 (zaf ⟨by simp, fun a ha => zdd (goE (zbt (eLoc ok.inl hF rfl rfl) fun J q => getG ok.inl W st.gr Fld.nts rfl q) (gLoc ok.inl hF rfl rfl (zb6 st.gr.tN.dict (st.gr.gn _) (zk4 (Nat.le_trans st.sz.N hi2)) (zab ?_))))⟩)))
    exact b5.n ⟨_, st.keyN hkn ha, rfl⟩
   ·have hkn : syms[i] ∈ kys t1.tN := by
     apply Classical.byContradiction
     intro hm
     rw [zby, zb9.mpr hm] at hh; cases hh
    refine zab (b5.n ⟨t1, ?_, rfl⟩)
    rw [zfx (hN.mpr hkn)]
    exact st.mono (Nat.le_succ _)
   rintro l H' ⟨t2, st2, rfl⟩
   have hk2 : syms[i] ∈ kys t2.tN := by
    rw [← st2.fldN syms[i]]
    unfold za2
    split
    ·assumption
    ·simp
   obtain ⟨a, xs, e⟩ := zd4 hk2
   obtain ⟨e1, e2⟩ := st2.gr.tN.at_ e
   refine zaa (sApp ok.inl (eSub (zbt (eLoc ok.inl hF rfl rfl) fun J q => getG ok.inl W st2.gr Fld.nts rfl q) (eLoc ok.inl hF rfl rfl) fun J q => zc2 st2.gr.tN.dict e1 q) e2 (eLoc ok.inl hF rfl rfl) (Nat.le_trans (st2.sz.lN _ (zbk e)) (Nat.le_trans (Nat.succ_le_succ hi2) (by decide))) (zab (zab ?_)))
   refine b4.n ⟨{ t2 with tN := tset t2.tN a (xs ++ [V.int t.ps.length]) }, _, ?_, rfl⟩
   rw [hnext, zdo, hu, zjd]
   exact (st2.useN e).mono (Nat.le_refl _)
 ·rintro l H' ⟨t1, a13, st, rfl⟩
  have hi2 : 1001 + 2 * syms.length ≤ 1041 := Nat.add_le_add_left (Nat.mul_le_mul_left 2 sz) 1001
  rw [List.length_map, List.take_length] at st
  refine ⟨zan (xs := syms.map .str) (ok.handled (Nat.succ_ne_zero _)) rfl (Nat.le_refl _), zab ?_⟩
  obtain ⟨ns, ens, nfld⟩ := st.gr.nD
  generalize hu : za8 (V.int t.ps.length) (tcon t.tT, za2 (tcon t.tN) h) syms = u at st
  obtain ⟨T, N⟩ := u
  refine zaa (sAsg ok hF rfl (zav (goE (zff ok W hF rfl rfl (.ref 68)) (goEs (zaj (eLoc ok hF rfl rfl) (zaj (eLoc ok hF rfl rfl) (zaj (eLoc ok hF rfl rfl) (zaj (eLoc ok hF rfl rfl) (zaj (eLoc ok hF rfl rfl) (zaj (eLoc ok hF rfl rfl) (zaj (eLoc ok hF rfl rfl) (zaj (zbt (zbt (eLoc ok hF rfl rfl) fun J q => getG ok W st.gr Fld.names rfl q) fun J q => getA ok W st.gr.nI ens nfld rfl q) eNil)))))))) ⟨zc9 ok W, ?_⟩))))
  refine zsr (n := n + 1) (syms := syms) ok W st.gr.gn st.gr.al rfl (Nat.le_trans sz (by decide)) hl fun pf hpf => ?_
  refine zaa (sApp ok (zbt (eLoc ok hF rfl rfl) fun J q => getG ok W st.gr Fld.prods rfl q) st.gr.ps (eLoc ok hF rfl rfl) (Nat.le_trans st.sz.ps (Nat.le_trans hi2 (by decide))) ?_)
  have g2 := st.gr.setL (a := g.prods) (t1.ps ++ [V.inst 68 pf])
  rw [zod st.gr] at g2
  have x2 := st.extL (List.mem_cons_self ..) (t1.ps ++ [V.inst 68 pf])
  have w2 : zdr H g t { t1 with ps := t1.ps ++ [V.inst 68 pf] } := st.grown.lists rfl
  have hnd : (h, syms) ∉ t1.pm := by rw [st.pm]; exact nd
  refine zaa (zae (gLoc ok hF rfl rfl (zdd (goE (zbt (eLoc ok hF rfl rfl) fun J q => getG ok W g2 Fld.pm rfl q) (gLoc ok hF rfl rfl (zu2 (k := (h, syms)) ok g2.pm (g2.gn _) hnd (Nat.le_trans (show t1.pm.length ≤ _ from st.sz.pm) (Nat.le_trans hi2 (by decide))) ?_))))))
  have g3 := g2.setP (t1.pm ++ [(h, syms)])
  have x3 : Ext (foot g t) H ((H'.aL g.prods (t1.ps ++ [V.inst 68 pf])).aP g.pm (t1.pm ++ [(h, syms)])) := x2.of_foot (t' := t) (extP (.inl (.inr (.inr (.inl rfl))))) (zdr.refl _ _ _)
  have w3 : zdr H g t { t1 with ps := t1.ps ++ [V.inst 68 pf], pm := t1.pm ++ [(h, syms)] } := st.grown.lists rfl
  have k3 : zkj t { t1 with ps := t1.ps ++ [V.inst 68 pf], pm := t1.pm ++ [(h, syms)] } := ⟨st.keeps.fst, st.keeps.fol, st.keeps.pr, st.keeps.ups, st.keeps.start⟩
  have hT3 : (tcon t1.tT, tcon t1.tN) = (T, N) := st.uses
  generalize hH3 : ((H'.aL g.prods (t1.ps ++ [V.inst 68 pf])).aP g.pm (t1.pm ++ [(h, syms)])) = H3 at g3 x3
  refine zaa (ztu (tv := .type "KeyError") ok tp (fun l H' => l = AL g.g h (syms.map .str) a6 a7 a8 a9 (some pv) (some (ze3 (h, syms))) (some (.int t.ps.length)) a13 (some (.inst 68 pf)) ∧ H3 = H' ∧ h ∉ kys t.tR) zk1 (fun e E l H ok' => gBi ok' W hF rfl rfl (by boot_by_name) (by decide) ⟨rfl, rfl, fun B v r => by obtain rfl := r.wI; rfl⟩) ?_ ?_)
  ·intro lo E okb tpb acc
   cases htg : tget t1.tR h with
   | some p =>
    obtain ⟨a, xs⟩ := p
    obtain ⟨e1, e2⟩ := g3.tR.at_ htg
    refine zaa (sApp okb (eSub (zbt (eLoc okb hF rfl rfl) fun J q => getG okb W g3 Fld.pn rfl q) (eLoc okb hF rfl rfl) fun J q => zc2 g3.tR.dict e1 q) e2 (eLoc okb hF rfl rfl) (Nat.le_trans (st.sz.lR _ (zbk htg)) (Nat.le_trans hi2 (by decide))) (zab (zab ?_)))
    have ha : a ∈ adr t1.tR := List.mem_map.mpr ⟨_, zbk htg, rfl⟩
    have g4 := g3.setL (a := a) (xs ++ [V.inst 68 pf])
    rw [zt1 g3 ha] at g4
    refine q _ _ pf _ g4 (x3.of_foot (Lay.extL (.inl (zl5 (zch ha)))) w3) (w3.lists (by simp [GT.lists, zl4])) ⟨k3.fst, k3.fol, k3.pr, k3.ups, k3.start⟩ hpf (by show t1.ps ++ _ = _; rw [st.ps]) (by show t1.pm ++ _ = _; rw [st.pm]) (by rw [hu]; exact hT3) ?_
    show tcon (tset t1.tR a (xs ++ [V.inst 68 pf])) = _
    rw [ziw st.gr.kR st.gr.apart.2.2.2.2.2.1 htg, st.R, zfx]
    rw [zal, ← st.R]
    apply Classical.byContradiction
    intro hm
    rw [zb9.mpr hm] at htg; cases htg
   | none =>
    have hk : h ∉ kys t1.tR := zb9.mp htg
    refine zaa (zm4 okb (zc1 (zat (goE (zbt (eLoc okb hF rfl rfl) fun J q => getG okb W g3 Fld.pn rfl q) (gLoc okb hF rfl rfl (zit (okb.handled (Nat.succ_ne_zero _)) g3.tR.dict (by rw [zby, htg]; rfl) fun B s e r => acc.raised r ⟨rfl, rfl, by rw [← st.R]; exact hk⟩))))))
  ·rintro e E l H4 okh ⟨rfl, rfl, hk⟩
   have hk1 : h ∉ kys t1.tR := by rw [st.R]; exact hk
   refine zaa (zae (za9 (goEs (zaj (eLoc okh hF rfl rfl) eNil) ⟨by simp, fun a ha => zdd (goE (zbt (eLoc okh hF rfl rfl) fun J q => getG okh W g3 Fld.pn rfl q) (gLoc okh hF rfl rfl (zb6 g3.tR.dict (g3.gn _) (zk4 (Nat.le_trans st.sz.R hi2)) (zab (zab ?_)))))⟩)))
   have g4 := g3.newR (xs := [V.inst 68 pf]) hk1 ha
   refine q _ _ pf _ g4 (x3.of_foot ((Lay.extL (.inr ha)).trans (extD (.inl (zl6 (by simp [GA.dicts]))))) w3) (w3.newR (x3.fresh ha)) ⟨k3.fst, k3.fol, k3.pr, k3.ups, k3.start⟩ hpf (by show t1.ps ++ _ = _; rw [st.ps]) (by show t1.pm ++ _ = _; rw [st.pm]) (by rw [hu]; exact hT3) ?_
   show tcon (t1.tR ++ [(h, a, [V.inst 68 pf])]) = _
   rw [st.R]
   unfold za2
   rw [if_neg (by rw [zal]; exact hk)]
   have : zbd (tcon t.tR) h (V.inst 68 pf) = tcon t.tR := by
    unfold zbd
    conv => rhs; rw [← List.map_id (tcon t.tR)]
    refine List.map_congr_left fun p hp => ?_
    rw [if_neg (fun e => hk (by rw [← zal, ← e]; exact List.mem_map.mpr ⟨p, hp, rfl⟩))]; rfl
   have e1 : zbd (tcon t.tR ++ [(h, [])]) h (V.inst 68 pf) = zbd (tcon t.tR) h (V.inst 68 pf) ++ [(h, [V.inst 68 pf])] := by simp [zbd]
   rw [e1, this]
   simp [tcon]
end
section
variable {P : Params} {F : Fx} {n : Nat} {loc : Loc} {H : Hp}
noncomputable def zlo (s : Str) : Prop := s.length ≤ 1000 ∧ ∃ c, (seqIndex? 0 s.length).bind (s.cps[·]?) = some c ∧ PyData.strOk ⟨#[c]⟩ = true ∧ (Builtin.Str.occurrences (Str.ofString "'\"") ⟨#[c]⟩ 0 (Str.ofString "'\"").length 1).isEmpty = true
theorem zng : zlo "%prec" := ⟨by decide +kernel, 37, by decide +kernel, by decide +kernel, by decide +kernel⟩
noncomputable def zrn (pr : List (Str × V)) (r : Option Str) : V := match r with
 | none => .tup [.str "right", .int 0]
 | some k => (dget pr k).getD (.tup [.str "right", .int 0])
noncomputable def zbf (syms : List Str) : Option Str -> List Str
 | none => syms
 | some w => syms ++ [Str.ofString "%prec", w]
noncomputable def zu0 (t : GT) (syms : List Str) : Option Str -> V
 | none => zrn t.pr (rm (fun s => (dget (tof t.tT) s).isSome) syms)
 | some w => (dget t.pr w).getD .none
noncomputable def wT (t : GT) : Option Str -> GT
 | none => t
 | some w => { t with ups := addS t.ups w }
noncomputable def wH (H : Hp) (g : GA) (t : GT) : Option Str -> Hp
 | none => H
 | some w => (H.aS g.ups (addS t.ups w))
structure ApOk (t : GT) (h : Str) (syms : List Str) (word : Option Str) : Prop where
 hT : h ∉ kys t.tT
 he : h ≠ "error"
 sg : ∀ s ∈ syms, zlo s
 np : Str.ofString "%prec" ∉ syms
 nd : (h, syms) ∉ t.pm
 sz : syms.length ≤ 18
 szt : Sz 1000 t
 wd : ∀ w, word = some w -> zlo w ∧ w ≠ Str.ofString "%prec" ∧ ∃ k l, dget t.pr w = some (.tup [.str k, .int l])
 up : t.ups.2 ≤ 100
theorem znh {t : GT} {h : Str} {syms : List Str} {word : Option Str} (ho : ApOk t h syms word) : (zbf syms word).length ≤ 20 := by
 have := ho.sz
 cases word with
 | none => show syms.length ≤ 20; lia
 | some w => show (syms ++ [_, _]).length ≤ 20; rw [List.length_append]; exact Nat.add_le_add_right this 2
theorem zj5 {t : GT} {h : Str} {syms : List Str} {word : Option Str} (ho : ApOk t h syms word) : ∀ s ∈ zbf syms word, zlo s := by
 cases word with
 | none => exact ho.sg
 | some w =>
  intro s hs
  rcases List.mem_append.mp hs with hs | hs
  ·exact ho.sg s hs
  ·simp only [List.mem_cons, List.not_mem_nil, or_false] at hs
   rcases hs with rfl | rfl
   ·exact zng
   ·exact (ho.wd _ rfl).1
theorem zvf {t : GT} {g : GA} (gr : Gr H g t) (word : Option Str) : Gr (wH H g t word) g (wT t word) := by
 cases word with
 | none => exact gr
 | some w => exact gr.setS _
theorem zug {t : GT} {g : GA} (word : Option Str) : Ext (foot g t) H (wH H g t word) := by
 cases word with
 | none => exact Ext.refl H
 | some w => exact extS (.inl (.inr (.inr (.inr rfl))))
theorem zmk {t : GT} {g : GA} (word : Option Str) : GT.lists g (wT t word) = GT.lists g t := by cases word <;> rfl
noncomputable def ALr (x : Addr) (h : Str) (a : Addr) (a6 a7 a9 a10 : Option V) : Loc := [some (.ref x), some (.str h), some (.ref a), some .none, some (.str (Str.ofString "")), some (.int 0), a6, a7, none, a9, a10, none, none, none, none, none, none, none, none, none, none, none]
inductive Aq1 (g : GA) (h : Str) (a : Addr) (H1 : Hp) (i : Nat) (l : Loc) (H' : Hp) : Prop
 | mk (a6 : Option V) (a7 : Option V) (_ : l = ALr g.g h a a6 a7 none none) (_ : H1 = H') : Aq1 g h a H1 i l H'
inductive Aq2 (H : Hp) (g : GA) (t : GT) (h : Str) (syms : List Str) (word : Option Str) (a : Addr) (pv : V) (l : Loc) (H' : Hp) : Prop
 | mk (a6 : Option V) (a7 : Option V) (a9 : Option V) (_ : ((wH H g t word).aL a (syms.map .str)) = H') (_ : l = ALr g.g h a a6 a7 a9 (some pv)) : Aq2 H g t h syms word a pv l H'
theorem eNeg {e : Expr} {i : Int} {pos : Pos} (h : Ev F e loc H (.int i)) : Ev F (.UnaryOp .USub e pos) loc H (.int (-i)) := fun J q => zrd (h ⟨rfl, q⟩)
theorem zsv (ok : Ok F (n + 5)) (W : Wd (K P) F.c.base) {g : GA} {t : GT} {h : Str} {syms : List Str} {word : Option Str} {a : Addr} {Q : V -> Loc -> Hp -> Prop} (gr : Gr H g t) (ho : ApOk t h syms word) (hf : H.Fresh a)
  (q : ∀ t' H' fs, Gr H' g t' -> Ext (foot g t) H H' -> zdr H g t t' -> zkj (wT t word) t' -> PrF fs (t.ps.length : Nat) h syms (zu0 t syms word) -> t'.ps = t.ps ++ [.inst 68 fs] -> t'.pm = t.pm ++ [(h, syms)] →
   (tcon t'.tT, tcon t'.tN) = za8 (.int (t.ps.length : Nat)) (tcon t.tT, za2 (tcon t.tN) h) syms -> tcon t'.tR = zbd (za2 (tcon t.tR) h) h (.inst 68 fs) -> Q .none loc H') :
  zco F 135 [.ref g.g, .str h, .ref a] [] [] loc (H.aL a ((zbf syms word).map .str)) Q := by
 generalize eH0 : ((H.aL a ((zbf syms word).map V.str)) : Hp) = H1
 refine defP ok W ["self", "prodname", "syms", "func", "file", "line"] (Vs := [.ref g.g, .str h, .ref a, .none, .str (Str.ofString ""), .int 0]) rfl rfl rfl rfl rfl rfl ?_ rfl ?_
 ·intro vs ws B r1 r2 le
  apply r2.e0
  apply r1.e3
  intro _ _ _ a b c
  exact ⟨[_, _, _, _, _, _], Looks.of_peek W.k rfl, .cons a (.cons b (.cons c (.cons .none (.cons (.str _ _ (zar _)) (.cons (.int _ _) .nil)))))⟩
 ·intro F' ok tp W hF
  have gr0 := gr
  have gr : Gr H1 g t := by rw [← eH0]; exact gr0.upL hf _
  have eL : H1.L a = some ((zbf syms word).map .str) := by rw [← eH0]; exact zac _ _ _
  have fl := znh ho
  have fp := zj5 ho
  have eT : dget (tof t.tT) h = none := by rw [zby, zb9.mpr ho.hT]; rfl
  refine zaa (sIf (b := false) (EvB.cast (bCmp (eLoc ok hF rfl rfl) (zbt (eLoc ok hF rfl rfl) fun J q => getG ok W gr Fld.ts rfl q) (kInD gr.tT.dict)) (by rw [eT]; rfl)) (fun h => by cases h) fun J => zab ?_)
  refine zaa (sIf (b := false) (EvB.cast (bCmp (eLoc ok hF rfl rfl) eStr kEqs) (decide_eq_false ho.he)) (fun h => by cases h) fun J => zab ?_)
  refine zaa (zbn (zis (gBi ok W hF rfl rfl (by boot_by_name) (by decide) ⟨rfl, zag (gLoc ok hF rfl rfl (zaf ⟨_, rfl, .inl ⟨_, eL, ?_⟩⟩))⟩)))
  refine za3 (fun i => zmy i) ((zbf syms word).map V.str).length (Aq1 g h a H1) ⟨none, none, rfl, rfl⟩ ?_ ?_
  ·rintro i Q1 b1 l H' hi ⟨a6, a7, rfl, rfl⟩
   have hi' : i < (zbf syms word).length := by simpa using hi
   obtain ⟨sl, c, c1, c2, c3⟩ := fp (zbf syms word)[i] (List.getElem_mem _)
   refine ⟨.tup [.int i, .str (zbf syms word)[i]], zrz (xs := (zbf syms word).map .str) ok eL (by simp [hi']), zbg ok.inl rfl (tLoc ok.inl hF rfl (tLoc ok.inl hF rfl ?_))⟩
   refine zaa (zjf (ze5 (zbr (zay (zat (gLoc ok.inl hF rfl rfl (zbu (zn3 (by decide) (by decide) c1 c2 (zdw (zn4 ⟨fun hh => absurd hh (by rw [c3]; decide), fun J => ?_⟩))))))))))
   exact ⟨fun h => absurd h (by decide), fun J => zab (zab (b1.n ⟨_, _, rfl, rfl⟩))⟩
  ·rintro l H' ⟨a6, a7, rfl, rfl⟩
   refine ⟨zkx (xs := (zbf syms word).map .str) ok eL rfl, zab ?_⟩
   generalize hpv : zu0 t syms word = pv at q
   refine za0 (Aq2 H g t h syms word a pv) (fun Q2 b2 => sIf (bCmp eStr (eLoc ok hF rfl rfl) fun J q => zq5 ok (xs := (zbf syms word).map .str) eL rfl (by simp [V.isD]) q) (fun hin => ?_) (fun hin => ?_)) ?_
   ·clear q
    cases word with
    | none =>
     rw [zig] at hin
     obtain ⟨s, hs, e⟩ := List.mem_map.mp hin
     injection e with e
     exact absurd (e ▸ hs) ho.np
    | some w =>
     obtain ⟨_, hw1, k, l, hw2⟩ := ho.wd w rfl
     have hsz := ho.sz
     have xl : ((zbf syms (some w)).map V.str).length = syms.length + 2 := by simp [zbf]
     have x1 : ((zbf syms (some w)).map V.str)[((-1 : Int) + ((zbf syms (some w)).map V.str).length).toNat]? = some (.str w) := by
      rw [xl, show ((-1 : Int) + ((syms.length + 2 : Nat) : Int)).toNat = syms.length + 1 by lia]
      simp [zbf]
     have x2 : ((zbf syms (some w)).map V.str)[((-2 : Int) + ((zbf syms (some w)).map V.str).length).toNat]? = some (.str (Str.ofString "%prec")) := by
      rw [xl, show ((-2 : Int) + ((syms.length + 2 : Nat) : Int)).toNat = syms.length by lia]
      simp [zbf]
     have y1 : -(((zbf syms (some w)).map V.str).length : Int) ≤ -1 := by rw [xl]; lia
     have y2 : -(((zbf syms (some w)).map V.str).length : Int) ≤ -2 := by rw [xl]; lia
     refine zaa (sIf (b := false) (EvB.cast (bCmp (eSub (eLoc ok hF rfl rfl) (eNeg eInt) fun J q => zdy eL (by decide) y1 (by decide) x1 q) eStr kEqs) (decide_eq_false hw1)) (fun h => by cases h) fun J => zab ?_)
     refine zaa (sIf (b := false) (EvB.cast (bCmp (eSub (eLoc ok hF rfl rfl) (eNeg eInt) fun J q => zdy eL (by decide) y2 (by decide) x2 q) eStr kNes) (by decide)) (fun h => by cases h) fun J => zab ?_)
     refine zaa (sA ok hF rfl (eSub (eLoc ok hF rfl rfl) (eNeg eInt) fun J q => zdy eL (by decide) y1 (by decide) x1 q) ?_)
     refine zaa (sA ok hF rfl (zj4 (zbt (eLoc ok hF rfl rfl) fun J q => getG ok W gr Fld.pr rfl q) (fun J q => zde gr.pr q) (zaj (eLoc ok hF rfl rfl) eNil) (zcq ok) fun Q q => zn7 gr.pr q) ?_)
     rw [hw2]
     have hpv2 : V.tup [.str k, .int l] = pv := by rw [← hpv]; show _ = (dget t.pr w).getD .none; rw [hw2]; rfl
     refine zaa (sIf (b := false) (EvB.cast (bNot (bTru (eLoc ok hF rfl rfl) fun J q => zse (Nat.le_of_ble_eq_true rfl) q)) rfl) (fun h => by cases h) fun J => ?_)
     refine zaa (znf ok (zbt (eLoc ok hF rfl rfl) fun J q => getG ok W gr Fld.ups rfl q) (fun J q => zl9 gr.ups q) (zaj (eLoc ok hF rfl rfl) eNil) (zcq ok) (zma gr.ups (gr.gn _) (Nat.le_trans ho.up (by decide)) (zab ?_)))
     refine zaa (zm7 (k := 2) (by decide) (gLoc ok hF rfl rfl ⟨_, rfl, zrd (zbu ⟨rfl, rfl, _, eL, by rw [xl]; lia, by rw [xl]; lia, zab ?_⟩)⟩))
     refine b2.n ⟨_, _, _, ?_, by rw [← hpv2]; rfl⟩
     have e3 : ((zbf syms (some w)).map V.str).take (((zbf syms (some w)).map V.str).length - 2) = syms.map V.str := by
      rw [xl, Nat.add_sub_cancel]
      unfold zbf
      rw [List.map_append, List.take_append_of_le_length (by simp), List.take_of_length_le (by simp)]
     rw [e3, ← eH0]
     show Hp.mk (up _ _ _) _ _ _ _ _ _ = Hp.mk (up (up _ _ _) _ _) _ _ _ _ _ _
     rw [zd3]; rfl
   ·clear q
    cases word with
    | some w =>
     rw [znr] at hin
     exact absurd (List.mem_map.mpr ⟨_, List.mem_append_right _ (List.mem_cons_self ..), rfl⟩) hin
    | none =>
     refine zaa (sA ok hF rfl (zlc (zff ok W hF rfl rfl (.ref 79)) (zaj (eLoc ok hF rfl rfl) (zaj (zbt (eLoc ok hF rfl rfl) fun J q => getG ok W gr Fld.ts rfl q) eNil)) (zc9 ok W) fun J q => zst (n := n + 3) (syms := syms) ok W eL gr.tT.dict (Nat.le_trans ho.sz (by decide)) q) ?_)
     refine zaa (sAsg ok hF rfl (zc1 (zaq (gLoc ok hF rfl rfl (getG ok W gr Fld.pr rfl (zde gr.pr (zag (gLoc ok hF rfl rfl (zag (zih (zag (zdw (zag (zbu (zaf ⟨by simp, zaf ⟨zcq ok, ?_⟩⟩)))))))))))))))
     have hpv2 : zrn t.pr (rm (fun s => (dget (tof t.tT) s).isSome) syms) = pv := hpv
     generalize rm (fun s => (dget (tof t.tT) s).isSome) syms = r at hpv2
     cases r with
     | none => exact zg5 gr.pr (zab (b2.n ⟨_, _, _, eH0, by rw [← hpv2]; rfl⟩))
     | some k => exact zdf gr.pr (zab (b2.n ⟨_, _, _, eH0, by rw [← hpv2]; rfl⟩))
   ·rintro l H' ⟨a6, a7, a9, rfl, rfl⟩
    have hfw : (wH H g t word).L a = none := by cases word <;> exact hf.l
    have gr2 := zvf gr0 word
    refine zrw (i := 2) (X := .ref a) rfl (Frz.list (zac _ _ _)) ?_
    have eH2 : ((((wH H g t word).aL a (syms.map .str)).uL a) : Hp) = wH H g t word := uaL hfw
    generalize eH3 : wH H g t word = H2 at gr2 eH2
    rw [eH2]
    have hz' : (syms.map V.str).length ≤ 1000000 := za1 ho.sz
    refine zaa (sA ok hF rfl (eTup (zaj (eLoc ok hF rfl rfl) (zaj (zlc (eBi ok W hF rfl rfl (by boot_by_name) (by decide)) (zaj (eLoc ok hF rfl rfl) eNil) (zcq ok) fun J q => zhx (xs := syms.map .str) rfl hz' q) eNil))) ?_)
    have epm : (wT t word).pm = t.pm := by cases word <;> rfl
    have eps : (wT t word).ps = t.ps := by cases word <;> rfl
    have et : (wT t word).tT = t.tT ∧ (wT t word).tN = t.tN ∧ (wT t word).tR = t.tR := by cases word <;> exact ⟨rfl, rfl, rfl⟩
    refine zaa (sIf (b := false) (EvB.cast (bCmp (eLoc ok hF rfl rfl) (zbt (eLoc ok hF rfl rfl) fun J q => getG ok W gr2 Fld.pm rfl q) fun J q => zr4 (k := (h, syms)) ok gr2.pm q) (decide_eq_false (by rw [epm]; exact ho.nd))) (fun h => by cases h) fun J => zab ?_)
    have szt2 : Sz 1000 (wT t word) := by
     have := ho.szt
     cases word
     ·exact this
     ·exact ⟨this.T, this.N, this.R, this.lT, this.lN, this.lR, this.ps, this.pm⟩
    refine zsu (n := n) (a6 := a6) (a7 := a7) (a8 := none) (a9 := a9) ok tp W hF gr2 (fun s hs => (ho.sg s hs).1) (by rw [epm]; exact ho.nd) (Nat.le_trans ho.sz (by decide)) szt2 (fun t' H' fs l q1 q2 q3 q4 q5 q6 q7 q8 q9 => ?_)
    rw [eps] at q5 q6 q8
    rw [epm] at q7
    rw [et.1, et.2.1] at q8
    rw [et.2.2] at q9
    have x2 : Ext (foot g t) H H2 := by rw [← eH3]; exact zug word
    refine q t' H' fs q1 (x2.of_foot q2 (fun b hb => .inl (zmk (g := g) (t := t) word ▸ hb))) (fun b hb => ?_) q4 q5 q6 q7 q8 q9
    rcases q3 b hb with z | z
    ·exact .inl (zmk (g := g) (t := t) word ▸ z)
    ·exact .inr (x2.fresh z)
end
section
variable {P : Params} {F : Fx} {n : Nat} {loc : Loc} {H : Hp}
theorem zsw (ok : Ok F (n + 3)) (W : Wd (K P) F.c.base) {g : GA} {t : GT} {w k : Str} {l : Int} {Q : V -> Loc -> Hp -> Prop} (gr : Gr H g t) (hps : t.ps = [.none]) (hw : dget t.pr w = none) (hk : V.str k ∈ [V.str "left", V.str "right", V.str "nonassoc"]) (hz : t.pr.length ≤ 1000)
  (q : ∀ H', Gr H' g { t with pr := dput t.pr w (.tup [.str k, .int l]) } -> Ext (foot g t) H H' -> Q .none loc H') :
  zco F 127 [.ref g.g, .str w, .str k, .int l] [] [] loc H Q := by
 refine defP ok W ["self", "term", "assoc", "level"] (Vs := [.ref g.g, .str w, .str k, .int l]) rfl rfl rfl rfl rfl rfl ?_ rfl ?_
 ·intro vs ws B r1 r2 le
  apply r2.e0
  apply r1.e4
  intro _ _ _ _ a b c d
  exact ⟨[_, _, _, _], Looks.of_peek W.k rfl, .cons a (.cons b (.cons c (.cons d .nil)))⟩
 ·intro F' ok tp W hF
  have epr : dget t.pr w = none := hw
  refine zaa (zog (zay (zaq (gLoc ok hF rfl rfl (getG ok W gr Fld.prods rfl (zdp (zag (zer (zaf ⟨by simp, znt ok (by simp only [asD, gr.ps, hps]; rfl) (by rfl) ⟨by simp only [asD, gr.ps, hps]; exact zes.mpr rfl, ?_⟩⟩)))))))))
  refine zaa (zjf (zay (gLoc ok hF rfl rfl (zaq (gLoc ok hF rfl rfl (getG ok W gr Fld.pr rfl (zev gr.pr ⟨fun h => absurd h (by rw [epr]; exact Bool.false_ne_true), fun J => zab ?_⟩)))))))
  refine zaa (zjf (zay (gLoc ok hF rfl rfl (zdp (zag (zdw (zag (zdw (zag (zdw (zaf ⟨by simp, zgs ok (xs := [.str "left", .str "right", .str "nonassoc"]) rfl rfl (by simp [V.isD]) ⟨fun h => absurd h (by rw [zig.mpr hk]; exact Bool.false_ne_true), fun J => zab ?_⟩⟩)))))))))))
  refine zaa (zae (zih (zag (gLoc ok hF rfl rfl (zag (gLoc ok hF rfl rfl (zaf ⟨by simp, zdd (zaq (gLoc ok hF rfl rfl (getG ok W gr Fld.pr rfl (gLoc ok hF rfl rfl (zb6 gr.pr (gr.gn _) (Nat.le_trans hz (by decide)) (zab ?_))))))⟩)))))))
  exact q _ (gr.setPr _) (extD (.inl (zl6 (by simp [GA.dicts]))))
end
section
variable {P : Params} {F : Fx} {n : Nat} {loc : Loc} {H : Hp}
inductive Ss1 (H : Hp) (g : GA) (st : Str) (l : Loc) (H' : Hp) : Prop
 | mk  (_ : H = H') (_ : l = [some (.ref g.g), some (.str st), none, none]) : Ss1 H g st l H'
theorem zrf (ok : Ok F (n + 4)) (W : Wd (K P) F.c.base) {g : GA} {t : GT} {st : Str} {gv : V} {Xs : List V} {a : Addr} {xs : List V} {Q : V -> Loc -> Hp -> Prop} (gr : Gr H g t) (hb : ∀ fd, kFd (K P) 143 = some fd -> zhk F.M F.c.base fd [] ["self", "start"] Xs [] [.ref g.g, gv])
  (hgv : (gv = .str st ∧ st.length ≠ 0) ∨ (gv = .none ∧ ∃ fs, t.ps[1]? = some (.inst 68 fs) ∧ dget fs "name" = some (.str st))) (hl : st.length ≤ 1000) (hN : tget t.tN st = some (a, xs)) (hx : xs.length ≤ 1000) (h0 : 0 < t.ps.length) (hz : t.ps.length ≤ 1000)
  (q : ∀ H' fs, PrF fs 0 "S'" [st] (.tup [.str "right", .int 0]) -> Gr H' g { t with ps := t.ps.set 0 (.inst 68 fs), tN := tset t.tN a (xs ++ [.int 0]), start := .str st } -> Ext (foot g t) H H' -> Q .none loc H') :
  zco F 143 Xs [] [] loc H Q := by
 refine defP ok W ["self", "start"] (Vs := [.ref g.g, gv]) rfl rfl rfl rfl rfl rfl ?_ rfl ?_
 ·exact hb _ rfl
 ·intro F' ok tp W hF
  refine za0 (Ss1 H g st) (fun Q1 b1 => zjf (zq4 (ze4 (gLoc ok hF rfl rfl ?_)))) ?_
  ·rcases hgv with ⟨rfl, h1⟩ | ⟨rfl, fs, h1, h2⟩
   ·refine zsf (Nat.le_trans hl (by decide)) ?_
    rw [decide_eq_true h1]
    exact ⟨fun h => absurd h Bool.false_ne_true, fun J => zab (b1.n ⟨rfl, rfl⟩)⟩
   ·refine zpm ⟨fun J => ?_, fun h => absurd h (by decide)⟩
    refine zaa (sAsg ok hF rfl (zaq (zat (zaq (gLoc ok hF rfl rfl (getG ok W gr Fld.prods rfl (zbu (zb4 gr.ps (by decide) (by decide) h1 (getI ok W h2 rfl (zab (b1.n ⟨rfl, rfl⟩)))))))))))
  rintro l H' ⟨rfl, rfl⟩
  have hd : (dget (tof t.tN) st).isSome = true := by rw [zby, hN]; rfl
  refine zaa (zjf (zay (gLoc ok hF rfl rfl (zaq (gLoc ok hF rfl rfl (getG ok W gr Fld.nts rfl (zec gr.tN.dict ⟨fun h => absurd h (by rw [hd]; exact Bool.false_ne_true), fun J => zab ?_⟩)))))))
  obtain ⟨ns, ens, nfld⟩ := gr.nD
  refine zaa (zae (zm8 (zr8 ok W hF rfl rfl (.ref 68) ⟨68, rfl, zag (zbu (zag (zdw (zag (zdp (zag (gLoc ok hF rfl rfl (zaf ⟨by simp, zaf (zaq (zaq (gLoc ok hF rfl rfl (getG ok W gr Fld.names rfl (getA ok W gr.nI ens nfld rfl ⟨zc9 ok W, ?_⟩)))))⟩))))))))⟩)))
  refine zqj (n := n) (syms := [st]) ok W gr.gn gr.al rfl (by simp) (fun s hs => by rw [List.mem_singleton] at hs; subst hs; exact hl) fun pf hpf => ?_
  refine zdd (zaq (gLoc ok hF rfl rfl (getG ok W gr Fld.prods rfl (zbu (zp6 gr.ps h0 (Nat.le_trans hz (by decide)) ?_)))))
  have g1 := gr.setL (a := g.prods) (t.ps.set 0 (V.inst 68 pf))
  rw [zod gr] at g1
  have x1 : Ext (foot g t) H (H.aL g.prods (t.ps.set 0 (V.inst 68 pf))) := Lay.extL (.inl (zl5 (List.mem_cons_self ..)))
  generalize eH1 : ((H.aL g.prods (t.ps.set 0 (V.inst 68 pf))) : Hp) = H1 at g1 x1
  obtain ⟨e1, e2⟩ := g1.tN.at_ hN
  refine zaa (zm4 ok (zc1 (zat (zaq (gLoc ok hF rfl rfl (getG ok W g1 Fld.nts rfl (gLoc ok hF rfl rfl (zc2 g1.tN.dict e1 (zgu e2 (zag (zbu (zaf ⟨zcq ok, zeu e2 (Nat.le_trans hx (by decide)) ?_⟩))))))))))))
  have ha : a ∈ adr t.tN := List.mem_map.mpr ⟨_, zbk hN, rfl⟩
  have g2 := g1.setL (a := a) (xs ++ [V.int 0])
  rw [zrb g1 ha] at g2
  have x2 : Ext (foot g t) H (H1.aL a (xs ++ [V.int 0])) := x1.trans (Lay.extL (.inl (zl5 (zb1 ha))))
  generalize eH2 : ((H1.aL a (xs ++ [V.int 0])) : Hp) = H2 at g2 x2
  obtain ⟨fs, f1, f2⟩ := g2.fs
  refine zaa (zae (gLoc ok hF rfl rfl (zax (gLoc ok hF rfl rfl (setA ok W g2.I f1 (g2.gn _) (Nat.le_trans f2.len (by decide)) ?_)))))
  exact zab (q _ pf hpf (g2.setStart f1 f2 (Put.of _ _ _) (by rw [zqd f2.start]; exact f2.len)) (x2.trans (extD (.inl (zl6 (by simp [GA.dicts]))))))
theorem zsx (ok : Ok F (n + 4)) (W : Wd (K P) F.c.base) {g : GA} {t : GT} {st : Str} {a : Addr} {xs : List V} {Q : V -> Loc -> Hp -> Prop} (gr : Gr H g t) (h0' : st.length ≠ 0) (hl : st.length ≤ 1000) (hN : tget t.tN st = some (a, xs)) (hx : xs.length ≤ 1000) (h0 : 0 < t.ps.length) (hz : t.ps.length ≤ 1000)
  (q : ∀ H' fs, PrF fs 0 "S'" [st] (.tup [.str "right", .int 0]) -> Gr H' g { t with ps := t.ps.set 0 (.inst 68 fs), tN := tset t.tN a (xs ++ [.int 0]), start := .str st } -> Ext (foot g t) H H' -> Q .none loc H') :
  zco F 143 [.ref g.g, .str st] [] [] loc H Q := by
 refine zrf ok W gr (fun fd hfd => ?_) (.inl ⟨rfl, h0'⟩) hl hN hx h0 hz q
 intro vs ws B r1 r2 le
 apply r2.e0
 apply r1.e2
 intro _ _ a b
 cases hfd
 exact ⟨[_, _], Looks.of_peek W.k rfl, .cons a (.cons b .nil)⟩
theorem zqm (ok : Ok F (n + 4)) (W : Wd (K P) F.c.base) {g : GA} {t : GT} {st : Str} {a : Addr} {xs : List V} {Q : V -> Loc -> Hp -> Prop} (gr : Gr H g t) (h1 : ∃ fs, t.ps[1]? = some (.inst 68 fs) ∧ dget fs "name" = some (.str st)) (hl : st.length ≤ 1000) (hN : tget t.tN st = some (a, xs)) (hx : xs.length ≤ 1000) (h0 : 0 < t.ps.length) (hz : t.ps.length ≤ 1000)
  (q : ∀ H' fs, PrF fs 0 "S'" [st] (.tup [.str "right", .int 0]) -> Gr H' g { t with ps := t.ps.set 0 (.inst 68 fs), tN := tset t.tN a (xs ++ [.int 0]), start := .str st } -> Ext (foot g t) H H' -> Q .none loc H') :
  zco F 143 [.ref g.g] [] [] loc H Q := by
 refine zrf ok W gr (fun fd hfd => ?_) (.inr ⟨rfl, h1⟩) hl hN hx h0 hz q
 intro vs ws B r1 r2 le
 apply r2.e0
 apply r1.e1
 intro _ a
 cases hfd
 exact ⟨[_, _], Looks.of_peek W.k rfl, .cons a (.cons .none .nil)⟩
end
section
variable {P : Params} {F : Fx} {n : Nat} {loc : Loc} {H : Hp}
noncomputable abbrev Rs := List (List (Str × V) × List Str)
noncomputable def psV (rs : Rs) : List V := rs.map fun r => .inst 68 r.1
noncomputable def PsOk (rs : Rs) : Prop := ∀ r ∈ rs, dget r.1 "prod" = some (.tup (r.2.map .str)) ∧ r.2.length ≤ 100
theorem zsy (ok : Ok F (n + 1)) (W : Wd (K P) F.c.base) {fs : List (Str × V)} {syms : List Str} {Q : V -> Loc -> Hp -> Prop} (h : dget fs "prod" = some (.tup (syms.map .str))) (hz : syms.length ≤ 100) (q : Q (.int (syms.length : Nat)) loc H) : zco F 58 [.inst 68 fs] [] [] loc H Q := by
 refine defP ok W ["self"] (Vs := [.inst 68 fs]) rfl rfl rfl rfl rfl rfl ?_ rfl ?_
 ·intro vs ws B r1 r2 le
  apply r2.e0
  apply r1.e1
  intro _ a
  exact ⟨[_], Looks.of_peek W.k rfl, .cons a .nil⟩
 ·intro F' ok tp W hF
  refine zaa (zbc (zav (gBi ok W hF rfl rfl (by boot_by_name) (by decide) (zag (zaq (gLoc ok hF rfl rfl (getI ok W h rfl (zaf ⟨zcq ok, zf8 (by rw [List.length_map]; exact Nat.le_trans hz (by decide)) ?_⟩))))))))
  rw [List.length_map]
  exact q
noncomputable def und (t : GT) (s : Str) : Bool := !(dget (tof t.tR) s).isSome && (!(dget (tof t.tT) s).isSome && !decide (s = "error"))
noncomputable def zdu (t : GT) (r : List (Str × V) × List Str) (j : Nat) : List V := ((r.2.take j).filter (und t)).map fun s => .tup [.str s, .inst 68 r.1]
noncomputable def undV (t : GT) (rs : Rs) : List V := rs.flatMap fun r => zdu t r r.2.length
theorem zj6 (t : GT) (rs : Rs) {i : Nat} (hi : i < rs.length) : undV t (rs.take (i + 1)) = undV t (rs.take i) ++ zdu t rs[i] rs[i].2.length := by
 unfold undV
 rw [zao hi, List.flatMap_append]; simp
theorem zh5 (t : GT) (r : List (Str × V) × List Str) {j : Nat} (hj : j < r.2.length) : zdu t r (j + 1) = zdu t r j ++ if und t r.2[j] then [.tup [.str r.2[j], .inst 68 r.1]] else [] := by
 unfold zdu
 rw [zao hj, List.filter_append, List.map_append]
 congr 1
 rw [List.filter_cons]
 split <;> simp
theorem zhc (t : GT) (r : List (Str × V) × List Str) (j : Nat) : (zdu t r j).length ≤ r.2.length := by
 unfold zdu
 rw [List.length_map]
 exact Nat.le_trans (List.length_filter_le _ _) (by rw [List.length_take]; exact Nat.min_le_right _ _)
theorem zml (t : GT) : ∀ rs : Rs, PsOk rs -> (undV t rs).length ≤ 100 * rs.length
 | [], _ => by simp [undV]
 | r :: rs, h => by
  have h1 := zml t rs (fun x hx => h x (.tail _ hx))
  have h2 := zhc t r r.2.length
  have h3 := (h r (.head _)).2
  show (zdu t r r.2.length ++ undV t rs).length ≤ _
  rw [List.length_append, List.length_cons]
  lia
inductive Us1 (H : Hp) (g : GA) (t : GT) (rs : Rs) (a : Addr) (i : Nat) (l : Loc) (H' : Hp) : Prop
 | mk (a2 : Option V) (a3 : Option V) (_ : l = [some (.ref g.g), some (.ref a), a2, a3]) (_ : (H.aL a (undV t (rs.take i))) = H') : Us1 H g t rs a i l H'
inductive Us2 (H : Hp) (g : GA) (t : GT) (rs : Rs) (a : Addr) (i : Nat) (hi : i < List.length rs) (j : Nat) (l : Loc) (H' : Hp) : Prop
 | mk (a3 : Option V) (_ : l = [some (.ref g.g), some (.ref a), some (.inst 68 rs[i].1), a3]) (_ : (H.aL a (undV t (rs.take i) ++ zdu t rs[i] j)) = H') : Us2 H g t rs a i hi j l H'
theorem zsz (ok : Ok F (n + 3)) (W : Wd (K P) F.c.base) {g : GA} {t : GT} {rs : Rs} {Q : V -> Loc -> Hp -> Prop} (gr : Gr H g t) (hr : PsOk rs) (ht : t.ps = psV rs) (hz : rs.length ≤ 100) (q : Q (.list (undV t rs)) loc H) : zco F 162 [.ref g.g] [] [] loc H (fun X l H => ∃ X' H', Frz X H X' H' ∧ Q X' l H') := by
 refine defP ok W ["self"] (Vs := [.ref g.g]) rfl rfl rfl rfl rfl rfl ?_ rfl ?_
 ·intro vs ws B r1 r2 le
  apply r2.e0
  apply r1.e1
  intro _ a
  exact ⟨[_], Looks.of_peek W.k rfl, .cons a .nil⟩
 ·intro F' ok tp W hF
  refine zaa (sAsg ok hF rfl (za9 (zaf ⟨by simp, fun a ha => ?_⟩)))
  have hps := gr.ps
  rw [ht] at hps
  have hne : g.prods ≠ a := ha.neL hps
  have gU : ∀ xs, Gr (H.aL a xs) g t := fun xs => gr.upL ha xs
  refine zaa (zbn (zcj (zaq (gLoc ok hF rfl rfl (getG ok W (gU _) Fld.prods rfl ⟨psV rs, upe hne hps, ?_⟩)))))
  refine za3 (fun i => zau i) rs.length (Us1 H g t rs a) ⟨none, none, rfl, rfl⟩ ?_ ?_
  ·rintro i Q1 b1 l H' hi ⟨a2, a3, rfl, rfl⟩
   obtain ⟨hp, hpl⟩ := hr _ (List.getElem_mem hi)
   have hU := zml t (rs.take i) (fun x hx => hr x (List.mem_of_mem_take hx))
   have hU2 : (undV t (rs.take i)).length ≤ 10000 := Nat.le_trans hU (Nat.le_trans (Nat.mul_le_mul_left 100 (by rw [List.length_take]; exact Nat.le_trans (Nat.min_le_right _ _) hz)) (by decide))
   refine ⟨.inst 68 rs[i].1, zbh (xs := psV rs) (upe hne hps) (by simp [psV, hi]), tLoc ok.inl hF rfl ?_⟩
   refine zaa (sIf (b := !decide (rs[i].2.length ≠ 0)) (bNot (bTru (eLoc ok.inl hF rfl rfl) fun J q => zp5 (n := n + 1) ok.inl W.k (by rfl) (by rfl) (by rfl) (zsy (n := n) (F := { F'.inl with A := F'.A.in1 }) ok.inl.in1 W hp hpl ⟨_, rfl, Nat.lt_of_le_of_lt hpl (by decide), q⟩))) (fun hb => ?_) (fun hb => zab ?_))
   ·refine zaa (zks (b1.c ⟨_, _, rfl, ?_⟩))
    have h0 : rs[i].2.length = 0 := by simpa using hb
    have e0 : zdu t rs[i] rs[i].2.length = [] := List.eq_nil_of_length_eq_zero (Nat.le_zero.mp (Nat.le_trans (zhc t rs[i] _) (Nat.le_of_eq h0)))
    rw [zj6 t rs hi, e0, List.append_nil]
   ·refine zaa (zbn (zir (zaq (gLoc ok.inl hF rfl rfl (getI ok.inl W hp rfl ⟨rs[i].2.map .str, rfl, ?_⟩)))))
    refine za3 (fun i => zee i) rs[i].2.length (Us2 H g t rs a i hi) ⟨_, rfl, by simp [zdu]⟩ ?_ ?_
    ·rintro j Q2 b2 l H' hj ⟨a3, rfl, rfl⟩
     have hU3 : (undV t (rs.take i) ++ zdu t rs[i] j).length ≤ 1000000 := by
      rw [List.length_append]
      exact Nat.le_trans (Nat.add_le_add hU2 (Nat.le_trans (zhc t rs[i] j) hpl)) (by decide)
     have gj := gU (undV t (rs.take i) ++ zdu t rs[i] j)
     refine ⟨.str rs[i].2[j], ziq (by simp [hj]), tLoc ok.inl.inl hF rfl ?_⟩
     refine zaa (sIf (b := und t rs[i].2[j]) (zua (bCmp (eLoc ok.inl.inl hF rfl rfl) (zbt (eLoc ok.inl.inl hF rfl rfl) fun J q => getG ok.inl.inl W gj Fld.pn rfl q) (zi5 gj.tR.dict)) (bCmp (eLoc ok.inl.inl hF rfl rfl) (zbt (eLoc ok.inl.inl hF rfl rfl) fun J q => getG ok.inl.inl W gj Fld.ts rfl q) (zi5 gj.tT.dict)) (bCmp (eLoc ok.inl.inl hF rfl rfl) eStr kNes)) (fun hb => ?_) (fun hb => zab (zab (b2.n ⟨_, rfl, ?_⟩))))
     ·refine zaa (sApp ok.inl.inl (eLoc ok.inl.inl hF rfl rfl) (zac _ _ _) (eTup (zaj (eLoc ok.inl.inl hF rfl rfl) (zaj (eLoc ok.inl.inl hF rfl rfl) eNil))) hU3 (zab (zab (b2.n ⟨_, rfl, ?_⟩))))
      rw [zh5 t rs[i] hj, if_pos hb, ← List.append_assoc, aaL]
     ·rw [zh5 t rs[i] hj, if_neg (by rw [hb]; exact Bool.false_ne_true), List.append_nil]
    ·rintro l H' ⟨a3, rfl, rfl⟩
     refine ⟨zdm (ok.inl.handled (Nat.succ_ne_zero _)) (by simp), zab (zab (b1.n ⟨_, _, rfl, ?_⟩))⟩
     rw [zj6 t rs hi]
  ·rintro l H' ⟨a2, a3, rfl, rfl⟩
   rw [List.take_length]
   refine ⟨zan (xs := psV rs) (ok.handled (Nat.succ_ne_zero _)) (upe hne hps) (by simp [psV]), zab ?_⟩
   exact zaa (zbc (gLoc ok hF rfl rfl (zgc ha q)))
end
section
variable {P : Params} {F : Fx} {n : Nat} {loc : Loc} {H : Hp}
noncomputable def pick {α : Type} (p : α -> Bool) (f : α -> V) (l : List α) : List V := (l.filter p).map f
theorem zj7 {α : Type} (p : α -> Bool) (f : α -> V) (l : List α) {i : Nat} (hi : i < l.length) : pick p f (l.take (i + 1)) = pick p f (l.take i) ++ if p l[i] then [f l[i]] else [] := by
 unfold pick
 rw [zao hi, List.filter_append, List.map_append]
 congr 1
 rw [List.filter_cons]
 split <;> simp
theorem zgp {α : Type} {p : α -> Bool} {f : α -> V} {l : List α} {i : Nat} (hi : i < l.length) (h : p l[i] = true) : pick p f (l.take (i + 1)) = pick p f (l.take i) ++ [f l[i]] := by rw [zj7 p f l hi, if_pos h]
theorem zhd {α : Type} {p : α -> Bool} {f : α -> V} {l : List α} {i : Nat} (hi : i < l.length) (h : p l[i] = false) : pick p f (l.take (i + 1)) = pick p f (l.take i) := by rw [zj7 p f l hi, if_neg (by rw [h]; exact Bool.false_ne_true), List.append_nil]
theorem zgq {α : Type} (p : α -> Bool) (f : α -> V) (l : List α) (i : Nat) : (pick p f (l.take i)).length ≤ l.length := by
 unfold pick
 rw [List.length_map]
 exact Nat.le_trans (List.length_filter_le _ _) (by rw [List.length_take]; exact Nat.min_le_right _ _)
noncomputable abbrev Ent := Str × Addr × List V
noncomputable def unT (e : Ent) : Bool := !decide (e.1 = "error") && !(!e.2.2.isEmpty)
inductive Ut1 (H : Hp) (g : GA) (t : GT) (a : Addr) (ep : Nat) (i : Nat) (l : Loc) (H' : Hp) : Prop
 | mk (a2 : Option V) (a3 : Option V) (_ : l = [some (.ref g.g), some (.ref a), a2, a3]) (_ : ((H.aL a (pick unT (fun e => V.str e.1) (t.tT.take i))).aG g.ts ep) = H') : Ut1 H g t a ep i l H'
theorem zs0 (ok : Ok F (n + 3)) (W : Wd (K P) F.c.base) {g : GA} {t : GT} {Q : V -> Loc -> Hp -> Prop} (gr : Gr H g t) (hz : t.tT.length ≤ 1000) (hl : ∀ e ∈ t.tT, e.2.2.length ≤ 10000) (q : Q (.list (pick unT (fun e => .str e.1) t.tT)) loc H) : zco F 169 [.ref g.g] [] [] loc H (fun X l H => ∃ X' H', Frz X H X' H' ∧ Q X' l H') := by
 refine defP ok W ["self"] (Vs := [.ref g.g]) rfl rfl rfl rfl rfl rfl ?_ rfl ?_
 ·intro vs ws B r1 r2 le
  apply r2.e0
  apply r1.e1
  intro _ a
  exact ⟨[_], Looks.of_peek W.k rfl, .cons a .nil⟩
 ·intro F' ok tp W hF
  refine zaa (sAsg ok hF rfl (za9 (zaf ⟨by simp, fun a ha => ?_⟩)))
  have gU : ∀ xs, Gr (H.aL a xs) g t := fun xs => gr.upL ha xs
  refine zaa (zbn (zfd (zaq (gLoc ok hF rfl rfl (getG ok W (gU _) Fld.ts rfl ⟨_, _, rfl, (gU []).tT.dict, fun ep => ?_⟩)))))
  have htl : (tof t.tT).length = t.tT.length := by unfold tof; rw [List.length_map]
  refine za3 (fun i => zei i) (tof t.tT).length (Ut1 H g t a ep) ⟨none, none, rfl, rfl⟩ ?_ ?_
  ·rintro i Q1 b1 l H' hi ⟨a2, a3, rfl, rfl⟩
   have hi' : i < t.tT.length := htl ▸ hi
   have gi := gU (pick unT (fun e => V.str e.1) (t.tT.take i))
   have hv := gi.tT.lst t.tT[i] (List.getElem_mem _)
   refine ⟨.tup [.str t.tT[i].1, .ref t.tT[i].2.1], zfc gi.tT.dict (zac _ _ _) rfl (by simp [tof, hi']), zbg ok.inl rfl (tLoc ok.inl hF rfl (tLoc ok.inl hF rfl ?_))⟩
   refine zaa (sIf (b := unT t.tT[i]) (bAnd (bCmp (eLoc ok.inl hF rfl rfl) eStr kNes) fun J => bNot (bTru (eLoc ok.inl hF rfl rfl) fun J q => zii hv (Nat.le_trans (hl _ (List.getElem_mem _)) (by decide)) q)) (fun hb => ?_) (fun hb => zab (zab (b1.n ⟨_, _, rfl, ?_⟩))))
   ·refine zaa (sApp ok.inl (eLoc ok.inl hF rfl rfl) (zac _ _ _) (eLoc ok.inl hF rfl rfl) (Nat.le_trans (zgq _ _ _ _) (Nat.le_trans hz (by decide))) (zab (zab (b1.n ⟨_, _, rfl, ?_⟩))))
    rw [zgp hi' hb, aLG]
   ·rw [zhd hi' hb]
  ·rintro l H' ⟨a2, a3, rfl, rfl⟩
   rw [htl, List.take_length]
   have gi := gU (pick unT (fun e => V.str e.1) t.tT)
   refine ⟨zct (ok.handled (Nat.succ_ne_zero _)) gi.tT.dict (zac _ _ _) htl (Nat.le_refl _), zab ?_⟩
   exact zb8 (zaa (zbc (gLoc ok hF rfl rfl (zgc ha q)))) (zap.refl _) (subG (gr.gn _))
noncomputable def unN (e : Ent) : Bool := !(!e.2.2.isEmpty)
inductive Ur1 (H : Hp) (g : GA) (t : GT) (uf : Str -> V) (a : Addr) (ep : Nat) (i : Nat) (l : Loc) (H' : Hp) : Prop
 | mk (a2 : Option V) (a3 : Option V) (a4 : Option V) (_ : l = [some (.ref g.g), some (.ref a), a2, a3, a4]) (_ : ((H.aL a (pick unN (fun e => uf e.1) (t.tN.take i))).aG g.nts ep) = H') : Ur1 H g t uf a ep i l H'
theorem zs1 (ok : Ok F (n + 3)) (W : Wd (K P) F.c.base) {g : GA} {t : GT} {uf : Str -> V} {Q : V -> Loc -> Hp -> Prop} (gr : Gr H g t) (hz : t.tN.length ≤ 1000) (hl : ∀ e ∈ t.tN, e.2.2.length ≤ 10000) (hu : ∀ e ∈ t.tN, unN e = true -> ∃ a r, tget t.tR e.1 = some (a, uf e.1 :: r)) (q : Q (.list (pick unN (fun e => uf e.1) t.tN)) loc H) : zco F 176 [.ref g.g] [] [] loc H (fun X l H => ∃ X' H', Frz X H X' H' ∧ Q X' l H') := by
 refine defP ok W ["self"] (Vs := [.ref g.g]) rfl rfl rfl rfl rfl rfl ?_ rfl ?_
 ·intro vs ws B r1 r2 le
  apply r2.e0
  apply r1.e1
  intro _ a
  exact ⟨[_], Looks.of_peek W.k rfl, .cons a .nil⟩
 ·intro F' ok tp W hF
  refine zaa (sAsg ok hF rfl (za9 (zaf ⟨by simp, fun a ha => ?_⟩)))
  have gU : ∀ xs, Gr (H.aL a xs) g t := fun xs => gr.upL ha xs
  refine zaa (zbn (zfd (zaq (gLoc ok hF rfl rfl (getG ok W (gU _) Fld.nts rfl ⟨_, _, rfl, (gU []).tN.dict, fun ep => ?_⟩)))))
  have htl : (tof t.tN).length = t.tN.length := by unfold tof; rw [List.length_map]
  refine za3 (fun i => zei i) (tof t.tN).length (Ur1 H g t uf a ep) ⟨none, none, none, rfl, rfl⟩ ?_ ?_
  ·rintro i Q1 b1 l H' hi ⟨a2, a3, a4, rfl, rfl⟩
   have hi' : i < t.tN.length := htl ▸ hi
   have gi := gU (pick unN (fun e => uf e.1) (t.tN.take i))
   have hv := gi.tN.lst t.tN[i] (List.getElem_mem _)
   refine ⟨.tup [.str t.tN[i].1, .ref t.tN[i].2.1], zfc gi.tN.dict (zac _ _ _) rfl (by simp [tof, hi']), zbg ok.inl rfl (tLoc ok.inl hF rfl (tLoc ok.inl hF rfl ?_))⟩
   refine zaa (sIf (b := unN t.tN[i]) (bNot (bTru (eLoc ok.inl hF rfl rfl) fun J q => zii hv (Nat.le_trans (hl _ (List.getElem_mem _)) (by decide)) q)) (fun hb => ?_) (fun hb => zab (zab (b1.n ⟨_, _, _, rfl, ?_⟩))))
   ·obtain ⟨ar, r, hr⟩ := hu _ (List.getElem_mem hi') hb
    obtain ⟨e1, e2⟩ := gi.tR.at_ hr
    refine zaa (sA ok.inl hF rfl (eSub (eSub (zbt (eLoc ok.inl hF rfl rfl) fun J q => getG ok.inl W gi Fld.pn rfl q) (eLoc ok.inl hF rfl rfl) fun J q => zc2 gi.tR.dict e1 q) eInt fun J q => zb4 (i := 0) (x := uf t.tN[i].1) e2 (by decide) (by decide) rfl q) ?_)
    refine zaa (sApp ok.inl (eLoc ok.inl hF rfl rfl) (zac _ _ _) (eLoc ok.inl hF rfl rfl) (Nat.le_trans (zgq _ _ _ _) (Nat.le_trans hz (by decide))) (zab (zab (b1.n ⟨_, _, _, rfl, ?_⟩))))
    rw [zgp hi' hb, aLG]
   ·rw [zhd hi' hb]
  ·rintro l H' ⟨a2, a3, a4, rfl, rfl⟩
   rw [htl, List.take_length]
   have gi := gU (pick unN (fun e => uf e.1) t.tN)
   refine ⟨zct (ok.handled (Nat.succ_ne_zero _)) gi.tN.dict (zac _ _ _) htl (Nat.le_refl _), zab ?_⟩
   exact zb8 (zaa (zbc (gLoc ok hF rfl rfl (zgc ha q)))) (zap.refl _) (subG (gr.gn _))
noncomputable abbrev Prs := List (Str × Str × Int)
noncomputable def prV (ps : Prs) : List (Str × V) := ps.map fun p => (p.1, .tup [.str p.2.1, .int p.2.2])
noncomputable def unP (t : GT) (p : Str × Str × Int) : Bool := !((dget (tof t.tT) p.1).isSome || t.ups.1 p.1)
noncomputable def unPV (p : Str × Str × Int) : V := .tup [.str p.1, .str p.2.1]
inductive Up1 (H : Hp) (g : GA) (t : GT) (ps : Prs) (a : Addr) (ep : Nat) (i : Nat) (l : Loc) (H' : Hp) : Prop
 | mk (a2 : Option V) (_ : l = [some (.ref g.g), some (.ref a), a2]) (_ : ((H.aL a (pick (unP t) unPV (ps.take i))).aG g.pr ep) = H') : Up1 H g t ps a ep i l H'
theorem zs2 (ok : Ok F (n + 3)) (W : Wd (K P) F.c.base) {g : GA} {t : GT} {ps : Prs} {Q : V -> Loc -> Hp -> Prop} (gr : Gr H g t) (hp : t.pr = prV ps) (hn : (ps.map (·.1)).Nodup) (hz : ps.length ≤ 1000) (q : Q (.list (pick (unP t) unPV ps)) loc H) : zco F 183 [.ref g.g] [] [] loc H (fun X l H => ∃ X' H', Frz X H X' H' ∧ Q X' l H') := by
 refine defP ok W ["self"] (Vs := [.ref g.g]) rfl rfl rfl rfl rfl rfl ?_ rfl ?_
 ·intro vs ws B r1 r2 le
  apply r2.e0
  apply r1.e1
  intro _ a
  exact ⟨[_], Looks.of_peek W.k rfl, .cons a .nil⟩
 ·intro F' ok tp W hF
  refine zaa (sAsg ok hF rfl (za9 (zaf ⟨by simp, fun a ha => ?_⟩)))
  have gU : ∀ xs, Gr (H.aL a xs) g t := fun xs => gr.upL ha xs
  have hpr : ∀ xs, ((H.aL a xs) : Hp).D g.pr = some (prV ps) := fun xs => hp ▸ (gU xs).pr
  refine zaa (zbn (zgn (zaq (gLoc ok hF rfl rfl (getG ok W (gU _) Fld.pr rfl ⟨_, _, rfl, hpr [], fun ep => ?_⟩)))))
  have htl : (prV ps).length = ps.length := by unfold prV; rw [List.length_map]
  have hk : ((prV ps).map (·.1)).Nodup := by unfold prV; rw [List.map_map]; exact hn
  refine za3 (fun i => zef i) (prV ps).length (Up1 H g t ps a ep) ⟨none, rfl, rfl⟩ ?_ ?_
  ·rintro i Q1 b1 l H' hi ⟨a2, rfl, rfl⟩
   have hi' : i < ps.length := htl ▸ hi
   have gi := gU (pick (unP t) unPV (ps.take i))
   have hg : dget (prV ps) ps[i].1 = some (.tup [.str ps[i].2.1, .int ps[i].2.2]) := zl7 hk (List.mem_map.mpr ⟨ps[i], List.getElem_mem _, rfl⟩)
   refine ⟨.str ps[i].1, zgm (x := .tup [.str ps[i].2.1, .int ps[i].2.2]) (hpr (pick (unP t) unPV (ps.take i))) (zac _ _ _) rfl (by simp [prV, hi']), tLoc ok.inl hF rfl ?_⟩
   refine zaa (sIf (b := unP t ps[i]) (bNot (bOr (bCmp (eLoc ok.inl hF rfl rfl) (zbt (eLoc ok.inl hF rfl rfl) fun J q => getG ok.inl W gi Fld.ts rfl q) (kInD gi.tT.dict)) (bCmp (eLoc ok.inl hF rfl rfl) (zbt (eLoc ok.inl hF rfl rfl) fun J q => getG ok.inl W gi Fld.ups rfl q) fun J q => zk6 gi.ups q))) (fun hb => ?_) (fun hb => zab (zab (b1.n ⟨_, rfl, ?_⟩))))
   ·refine zaa (sApp ok.inl (eLoc ok.inl hF rfl rfl) (zac _ _ _) (eTup (zaj (eLoc ok.inl hF rfl rfl) (zaj (eSub (eSub (zbt (eLoc ok.inl hF rfl rfl) fun J q => getG ok.inl W gi Fld.pr rfl q) (eLoc ok.inl hF rfl rfl) fun J q => zc2 (hpr (pick (unP t) unPV (ps.take i))) hg q) eInt fun J q => zku (i := 0) (x := .str ps[i].2.1) (by decide) (by decide) rfl q) eNil))) (Nat.le_trans (zgq _ _ _ _) (Nat.le_trans hz (by decide))) (zab (zab (b1.n ⟨_, rfl, ?_⟩))))
    rw [zgp hi' hb, aLG]; rfl
   ·rw [zhd hi' hb]
  ·rintro l H' ⟨a2, rfl, rfl⟩
   rw [htl, List.take_length]
   refine ⟨zc3 (ok.handled (Nat.succ_ne_zero _)) (hpr (pick (unP t) unPV ps)) (zac _ _ _) htl (Nat.le_refl _), zab ?_⟩
   exact zb8 (zaa (zbc (gLoc ok hF rfl rfl (zgc ha q)))) (zap.refl _) (subG (gr.gn _))
end
noncomputable def upd (f : Str -> Bool) (n : Str) : Str -> Bool := fun k => f k || decide (k = n)
noncomputable def bv (ks : List Str) (f : Str -> Bool) : List (Str × V) := ks.map fun k => (k, .bool (f k))
theorem zrg {ks : List Str} {f : Str -> Bool} {k : Str} (h : k ∈ ks) : dget (bv ks f) k = some (.bool (f k)) := by
 unfold dget bv
 induction ks with
 | nil => cases h
 | cons a ks ih =>
  rw [List.map_cons, List.find?_cons]
  by_cases e : a = k
  ·subst e; simp
  ·simp only [e, decide_false]
   exact ih ((List.mem_cons.mp h).resolve_left (fun z => e z.symm))
theorem zuh {ks : List Str} {f : Str -> Bool} {n : Str} (h : n ∈ ks) : dput (bv ks f) n (.bool true) = bv ks (upd f n) := by
 have hm : (bv ks f).any (fun kv => decide (kv.1 = n)) = true := List.any_eq_true.mpr ⟨(n, .bool (f n)), List.mem_map.mpr ⟨n, h, rfl⟩, decide_eq_true rfl⟩
 unfold dput
 rw [if_pos hm]
 unfold bv upd
 rw [List.map_map]
 refine List.map_congr_left fun k J => ?_
 by_cases e : k = n
 ·subst e; simp
 ·simp [e]
theorem zi6 {f : Str -> Bool} {n : Str} (h : f n = true) : upd f n = f := by
 funext k
 unfold upd
 by_cases e : k = n
 ·subst e; simp [h]
 ·simp [e]
noncomputable def hit (f : Str -> Bool) (rs : Rs) : Bool := rs.any fun r => r.2.all f
noncomputable def stp (x : (Str -> Bool) × Bool) (e : Str × Rs) : (Str -> Bool) × Bool := if hit x.1 e.2 then (upd x.1 e.1, x.2 || !x.1 e.1) else x
noncomputable abbrev Gs := List (Str × Rs)
noncomputable def pass (gs : Gs) (x : (Str -> Bool) × Bool) : (Str -> Bool) × Bool := gs.foldl stp x
theorem zoy (gs : Gs) (x : (Str -> Bool) × Bool) {i : Nat} (hi : i < gs.length) : pass (gs.take (i + 1)) x = stp (pass (gs.take i) x) gs[i] := by
 unfold pass
 rw [zao hi, List.foldl_append]; rfl
inductive Tm (N : List Str) (gs : Gs) : Str -> Prop
 | tok {s} : s ∉ N -> Tm N gs s
 | head {e r} : e ∈ gs -> r ∈ e.2 -> (∀ s ∈ r.2, Tm N gs s) -> Tm N gs e.1
noncomputable def Snd (N : List Str) (gs : Gs) (f : Str -> Bool) : Prop := ∀ s, f s = true -> Tm N gs s
noncomputable def Cld (gs : Gs) (f : Str -> Bool) : Prop := ∀ e ∈ gs, hit f e.2 = true -> f e.1 = true
noncomputable def left (ks : List Str) (f : Str -> Bool) : Nat := (ks.filter fun k => !f k).length
theorem ze0 (ks : List Str) (f : Str -> Bool) (n : Str) : left ks (upd f n) ≤ left ks f := by
 unfold left
 induction ks with
 | nil => exact Nat.le_refl _
 | cons a ks ih =>
  rw [List.filter_cons, List.filter_cons]
  cases ha : f a with
  | true =>
   have e1 : upd f n a = true := by simp [upd, ha]
   rw [e1]; exact ih
  | false =>
   cases upd f n a with
   | true => exact Nat.le_succ_of_le ih
   | false => exact Nat.succ_le_succ ih
theorem ze1 {ks : List Str} {f : Str -> Bool} {n : Str} (h : n ∈ ks) (hf : f n = false) : left ks (upd f n) < left ks f := by
 unfold left
 induction ks with
 | nil => cases h
 | cons a ks ih =>
  by_cases e : a = n
  ·subst e
   have h1 := ze0 ks f a
   unfold left at h1
   have e1 : upd f a a = true := by simp [upd]
   rw [List.filter_cons, List.filter_cons, hf, e1]
   simp only [Bool.not_true, Bool.false_eq_true, if_false, Bool.not_false, if_true, List.length_cons]
   lia
  ·have h2 := ih ((List.mem_cons.mp h).resolve_left (fun z => e z.symm))
   have e1 : upd f n a = f a := by simp [upd, e]
   rw [List.filter_cons, List.filter_cons, e1]
   split
   ·simp only [List.length_cons]; lia
   ·exact h2
structure zkm (N ks : List Str) (gs : Gs) (f0 : Str -> Bool) (x : (Str -> Bool) × Bool) : Prop where
 snd : Snd N gs x.1
 le : left ks x.1 ≤ left ks f0
 ch : x.2 = true -> left ks x.1 < left ks f0
 no : x.2 = false -> x.1 = f0
theorem zui {N ks : List Str} {gs : Gs} {f0 : Str -> Bool} {x : (Str -> Bool) × Bool} {e : Str × Rs} (he : e ∈ gs) (hk : e.1 ∈ ks) (h : zkm N ks gs f0 x) : zkm N ks gs f0 (stp x e) := by
 unfold stp
 split
 ·rename_i hh
  refine ⟨fun s hs => ?_, Nat.le_trans (ze0 _ _ _) h.le, fun hc => ?_, fun hc => ?_⟩
  ·by_cases z : s = e.1
   ·subst z
    obtain ⟨r, hr, ha⟩ := List.any_eq_true.mp hh
    exact .head he hr fun s hs => h.snd s (List.all_eq_true.mp ha s hs)
   ·refine h.snd s ?_
    have : (x.1 s || decide (s = e.1)) = true := hs
    simpa [z] using this
  ·dsimp only at hc ⊢
   cases hx : x.1 e.1 with
   | false => exact Nat.lt_of_lt_of_le (ze1 hk hx) h.le
   | true =>
    rw [hx, Bool.not_true, Bool.or_false] at hc
    exact Nat.lt_of_le_of_lt (ze0 _ _ _) (h.ch hc)
  ·dsimp only at hc ⊢
   rw [Bool.or_eq_false_iff] at hc
   have h2 : x.1 e.1 = true := by simpa using hc.2
   rw [zi6 h2]; exact h.no hc.1
 ·exact h
theorem zs3 {N ks : List Str} {gs : Gs} {f0 : Str -> Bool} (hk : ∀ e ∈ gs, e.1 ∈ ks) (h0 : Snd N gs f0) : zkm N ks gs f0 (pass gs (f0, false)) := by
 have key : ∀ (l : Gs) (x : (Str -> Bool) × Bool), (∀ e ∈ l, e ∈ gs) -> zkm N ks gs f0 x -> zkm N ks gs f0 (pass l x) := by
  intro l
  induction l with
  | nil => intro x _ h; exact h
  | cons e l ih => intro x hl h; exact ih _ (fun y hy => hl y (.tail _ hy)) (zui (hl e (.head _)) (hk e (hl e (.head _))) h)
 exact key gs _ (fun J h => h) ⟨h0, Nat.le_refl _, fun h => (nomatch h), fun J => rfl⟩
theorem zuj {x : (Str -> Bool) × Bool} {e : Str × Rs} (h : x.2 = true) : (stp x e).2 = true := by
 unfold stp
 split
 ·show (x.2 || _) = true; rw [h]; rfl
 ·exact h
theorem zoz : ∀ (l : Gs) {x : (Str -> Bool) × Bool}, x.2 = true -> (pass l x).2 = true
 | [], _, h => h
 | e :: l, _, h => zoz l (zuj h)
theorem zle {gs : Gs} {f : Str -> Bool} (h : (pass gs (f, false)).2 = false) : Cld gs f := by
 have key : ∀ (l : Gs), (pass l (f, false)).2 = false -> ∀ e ∈ l, hit f e.2 = true -> f e.1 = true := by
  intro l
  induction l with
  | nil => intro _ e he; cases he
  | cons a l ih =>
   intro h e he hh
   have h' : (pass l (stp (f, false) a)).2 = false := h
   have h1 : (stp (f, false) a).2 = false := by
    cases z : (stp (f, false) a).2 with
    | false => rfl
    | true => rw [zoz l z] at h'; cases h'
   have h2 : stp (f, false) a = (f, false) := by
    unfold stp at h1 ⊢
    split
    ·rename_i hh2
     rw [if_pos hh2] at h1
     have : f a.1 = true := by simpa using h1
     simp [this, zi6 this]
    ·rfl
   cases he with
   | head _ =>
    unfold stp at h1
    rw [if_pos hh] at h1
    simpa using h1
   | tail _ he =>
    rw [h2] at h'
    exact ih h' e he hh
 exact key gs h
section
variable {P : Params} {F : Fx} {n : Nat} {loc : Loc} {H : Hp}
noncomputable def bvl (l : List (Str × Bool)) : List (Str × V) := l.map fun p => (p.1, .bool p.2)
theorem zlf {l : List (Str × Bool)} {k : Str} {b : Bool} (h : k ∉ l.map (·.1)) : dput (bvl l) k (.bool b) = bvl (l ++ [(k, b)]) := by
 rw [zik (zil.mpr (by unfold bvl; rw [List.map_map]; exact h))]
 unfold bvl
 rw [List.map_append]; rfl
theorem zlg (l : List (Str × Bool)) : (bvl l).length = l.length := by unfold bvl; rw [List.length_map]
theorem zmm (ks : List Str) (f : Str -> Bool) : (bv ks f).length = ks.length := by unfold bv; rw [List.length_map]
theorem len2 {a b i : Nat} (h : a ≤ 1000) (k : b ≤ 1000) : a + [(Str.ofString "$end", true)].length + min i b ≤ 100000 := by
 simp only [List.length_cons, List.length_nil]; lia
noncomputable def ksOf (t : GT) : List Str := kys t.tT ++ (Str.ofString "$end" :: kys t.tN)
theorem zs4 {t : GT} (h1 : ∀ k ∈ kys t.tT, k ∉ kys t.tN) (h2 : Str.ofString "$end" ∉ kys t.tN) : bvl ((kys t.tT).map (fun k => (k, true)) ++ [(Str.ofString "$end", true)] ++ (kys t.tN).map fun k => (k, false)) = bv (ksOf t) fun k => !decide (k ∈ kys t.tN) := by
 unfold bvl bv ksOf
 rw [List.map_append, List.map_append, List.map_append, List.map_cons, List.append_assoc]
 congr 1
 ·rw [List.map_map]
  refine List.map_congr_left fun k hk => ?_
  simp [h1 k hk]
 ·simp only [List.map_cons, List.map_nil, List.cons_append, List.nil_append]
  congr 1
  ·simp [h2]
  ·rw [List.map_map]
   refine List.map_congr_left fun k hk => ?_
   simp [hk]
theorem zj8 {gs : Gs} {s : Str} : ∀ {x : (Str -> Bool) × Bool}, x.1 s = true -> (pass gs x).1 s = true := by
 unfold pass
 induction gs with
 | nil => intro x h; exact h
 | cons e gs ih =>
  intro x h
  refine ih (x := stp x e) ?_
  unfold stp
  split
  ·show (x.1 s || _) = true; rw [h]; rfl
  ·exact h
structure IcOk (t : GT) (gs : Gs) : Prop where
 R : tcon t.tR = gs.map fun e => (e.1, psV e.2)
 ps : ∀ e ∈ gs, PsOk e.2
 tn : ∀ k ∈ kys t.tT, k ∉ kys t.tN
 e1 : Str.ofString "$end" ∉ kys t.tT
 e2 : Str.ofString "$end" ∉ kys t.tN
 hd : ∀ e ∈ gs, e.1 ∈ kys t.tN
 sg : ∀ e ∈ gs, ∀ r ∈ e.2, ∀ s ∈ r.2, s ∈ kys t.tT ∨ s ∈ kys t.tN
 zT : t.tT.length ≤ 1000
 zN : t.tN.length ≤ 1000
theorem IcOk.len {t : GT} {gs : Gs} (h : IcOk t gs) : t.tR.length = gs.length := by
 have := congrArg List.length h.R
 unfold tcon at this
 simpa using this
theorem IcOk.at_ {t : GT} {gs : Gs} (h : IcOk t gs) {i : Nat} (hi : i < gs.length) : ∃ a, t.tR[i]? = some (gs[i].1, a, psV gs[i].2) := by
 have h1 : i < t.tR.length := h.len ▸ hi
 have h2 := congrArg (·[i]?) h.R
 unfold tcon at h2
 simp only [List.getElem?_map, List.getElem?_eq_getElem h1, List.getElem?_eq_getElem hi, Option.map_some, Option.some.injEq, Prod.mk.injEq] at h2
 refine ⟨t.tR[i].2.1, ?_⟩
 rw [List.getElem?_eq_getElem h1, ← h2.1, ← h2.2]
theorem IcOk.mem {t : GT} {gs : Gs} (h : IcOk t gs) {s : Str} (hs : s ∈ kys t.tT ∨ s ∈ kys t.tN) : s ∈ ksOf t := by
 rcases hs with hs | hs
 ·exact List.mem_append_left _ hs
 ·exact List.mem_append_right _ (.tail _ hs)
theorem IcOk.ksLen {t : GT} {gs : Gs} (h : IcOk t gs) : (ksOf t).length ≤ 2001 := by
 have h1 := h.zT; have h2 := h.zN
 unfold ksOf kys
 rw [List.length_append, List.length_cons, List.length_map, List.length_map]
 lia
noncomputable def IL (x d : Addr) (a2 a3 a4 a5 a6 a7 a8 a9 a10 : Option V) : Loc := [some (.ref x), some (.ref d), a2, a3, a4, a5, a6, a7, a8, a9, a10]
inductive Ic1 (H : Hp) (g : GA) (t : GT) (d : Addr) (l : Loc) (H' : Hp) : Prop
 | mk (a2 : Option V) (_ : l = IL g.g d a2 none none none none none none none none) (_ : (H.aD d (bvl ((kys t.tT).map fun k => (k, true)))) = H') : Ic1 H g t d l H'
inductive Ic2 (H : Hp) (g : GA) (t : GT) (d : Addr) (ep : Nat) (i : Nat) (l : Loc) (H' : Hp) : Prop
 | mk (a2 : Option V) (_ : l = IL g.g d a2 none none none none none none none none) (_ : ((H.aD d (bvl (((kys t.tT).take i).map fun k => (k, true)))).aG g.ts ep) = H') : Ic2 H g t d ep i l H'
inductive Ic3 (H : Hp) (g : GA) (t : GT) (d : Addr) (l : Loc) (H' : Hp) : Prop
 | mk (a2 : Option V) (a3 : Option V) (_ : l = IL g.g d a2 a3 none none none none none none none) (_ : (H.aD d (bv (ksOf t) fun k => !decide (k ∈ kys t.tN))) = H') : Ic3 H g t d l H'
inductive Ic4 (H : Hp) (g : GA) (t : GT) (d : Addr) (a2 : Option V) (ep : Nat) (i : Nat) (l : Loc) (H' : Hp) : Prop
 | mk (a3 : Option V) (_ : l = IL g.g d a2 a3 none none none none none none none) (_ : ((H.aD d (bvl ((kys t.tT).map (fun k => (k, true)) ++ [(Str.ofString "$end", true)] ++ ((kys t.tN).take i).map fun k => (k, false)))).aG g.nts ep) = H') : Ic4 H g t d a2 ep i l H'
inductive Ic5 (H : Hp) (g : GA) (t : GT) (gs : Gs) (d : Addr) (l : Loc) (H' : Hp) : Prop
 | mk (f : Str -> Bool) (a2 : Option V) (a3 : Option V) (a4 : Option V) (a5 : Option V) (a6 : Option V) (a7 : Option V) (a8 : Option V) (_ : l = IL g.g d a2 a3 a4 a5 a6 a7 a8 none none) (_ : (H.aD d (bv (ksOf t) f)) = H') (_ : Snd (kys t.tN) gs f) (_ : Cld gs f) (_ : (∀ s, s ∉ kys t.tN -> f s = true)) : Ic5 H g t gs d l H'
inductive Ic6 (H : Hp) (g : GA) (t : GT) (gs : Gs) (d : Addr) (k : Nat) (l : Loc) (H' : Hp) : Prop
 | mk (f : Str -> Bool) (a2 : Option V) (a3 : Option V) (a4 : Option V) (a5 : Option V) (a6 : Option V) (a7 : Option V) (a8 : Option V) (_ : l = IL g.g d a2 a3 a4 a5 a6 a7 a8 none none) (_ : (H.aD d (bv (ksOf t) f)) = H') (_ : Snd (kys t.tN) gs f) (_ : left (ksOf t) f = k) (_ : (∀ s, s ∉ kys t.tN -> f s = true)) : Ic6 H g t gs d k l H'
inductive Ic7 (H : Hp) (g : GA) (t : GT) (gs : Gs) (d : Addr) (f : Str -> Bool) (a2 : Option V) (l : Loc) (H' : Hp) : Prop
 | mk (a3 : Option V) (a5 : Option V) (a6 : Option V) (a7 : Option V) (a8 : Option V) (_ : l = IL g.g d a2 a3 (some (.bool (pass gs (f, false)).2)) a5 a6 a7 a8 none none) (_ : (H.aD d (bv (ksOf t) (pass gs (f, false)).1)) = H') : Ic7 H g t gs d f a2 l H'
inductive Ic8 (H : Hp) (g : GA) (t : GT) (gs : Gs) (d : Addr) (f : Str -> Bool) (a2 : Option V) (ep : Nat) (i : Nat) (l : Loc) (H' : Hp) : Prop
 | mk (a3 : Option V) (a5 : Option V) (a6 : Option V) (a7 : Option V) (a8 : Option V) (_ : l = IL g.g d a2 a3 (some (.bool (pass (gs.take i) (f, false)).2)) a5 a6 a7 a8 none none) (_ : ((H.aD d (bv (ksOf t) (pass (gs.take i) (f, false)).1)).aG g.pn ep) = H') : Ic8 H g t gs d f a2 ep i l H'
inductive Ic9 (H : Hp) (g : GA) (t : GT) (gs : Gs) (d : Addr) (a2 : Option V) (ep : Nat) (i : Nat) (hl' : i < List.length gs) (ar : Addr) (f1 : Str -> Bool) (c1 : Bool) (j : Nat) (l : Loc) (H' : Hp) : Prop
 | mk (a6 : Option V) (a7 : Option V) (a8 : Option V) (_ : hit f1 (gs[i].2.take j) = false) (_ : l = IL g.g d a2 (some (.str gs[i].1)) (some (.bool c1)) (some (.ref ar)) a6 a7 a8 none none) (_ : ((H.aD d (bv (ksOf t) f1)).aG g.pn ep) = H') : Ic9 H g t gs d a2 ep i hl' ar f1 c1 j l H'
inductive Ic10 (H : Hp) (g : GA) (t : GT) (gs : Gs) (d : Addr) (a2 : Option V) (ep : Nat) (i : Nat) (hl' : i < List.length gs) (ar : Addr) (f1 : Str -> Bool) (c1 : Bool) (r : List (Str × V) × List Str) (l : Loc) (H' : Hp) : Prop
 | mk (a7 : Option V) (_ : l = IL g.g d a2 (some (.str gs[i].1)) (some (.bool c1)) (some (.ref ar)) (some (.inst 68 r.1)) a7 (some (.bool (r.2.all f1))) none none) (_ : ((H.aD d (bv (ksOf t) f1)).aG g.pn ep) = H') : Ic10 H g t gs d a2 ep i hl' ar f1 c1 r l H'
inductive Ic11 (H : Hp) (g : GA) (t : GT) (gs : Gs) (d : Addr) (a2 : Option V) (ep : Nat) (i : Nat) (hl' : i < List.length gs) (ar : Addr) (f1 : Str -> Bool) (c1 : Bool) (r : List (Str × V) × List Str) (k : Nat) (l : Loc) (H' : Hp) : Prop
 | mk (a7 : Option V) (a8 : Option V) (_ : (r.2.take k).all f1 = true) (_ : l = IL g.g d a2 (some (.str gs[i].1)) (some (.bool c1)) (some (.ref ar)) (some (.inst 68 r.1)) a7 a8 none none) (_ : ((H.aD d (bv (ksOf t) f1)).aG g.pn ep) = H') : Ic11 H g t gs d a2 ep i hl' ar f1 c1 r k l H'
inductive Ic12 (H : Hp) (g : GA) (t : GT) (gs : Gs) (d : Addr) (a2 : Option V) (ep : Nat) (i : Nat) (hl' : i < List.length gs) (ar : Addr) (f1 : Str -> Bool) (c1 : Bool) (r : List (Str × V) × List Str) (a7 : Option V) (l : Loc) (H' : Hp) : Prop
 | mk  (_ : l = IL g.g d a2 (some (.str gs[i].1)) (some (.bool (c1 || !f1 gs[i].1))) (some (.ref ar)) (some (.inst 68 r.1)) a7 (some (.bool (r.2.all f1))) none none) (_ : ((H.aD d (bv (ksOf t) (upd f1 gs[i].1))).aG g.pn ep) = H') : Ic12 H g t gs d a2 ep i hl' ar f1 c1 r a7 l H'
inductive Ic13 (H : Hp) (g : GA) (t : GT) (d : Addr) (f : Str -> Bool) (a2 : Option V) (a3 : Option V) (a4 : Option V) (a5 : Option V) (a6 : Option V) (a8 : Option V) (b : Addr) (ep : Nat) (i : Nat) (l : Loc) (H' : Hp) : Prop
 | mk (a7 : Option V) (a10 : Option V) (_ : l = IL g.g d a2 a3 a4 a5 a6 a7 a8 (some (.ref b)) a10) (_ : (((H.aL b (pick (fun k => !f k && !und t k) .str ((ksOf t).take i))).aD d (bv (ksOf t) f)).aG d ep) = H') : Ic13 H g t d f a2 a3 a4 a5 a6 a8 b ep i l H'
theorem zs5 (ok : Ok F (n + 6)) (W : Wd (K P) F.c.base) {g : GA} {t : GT} {gs : Gs} {Q : V -> Loc -> Hp -> Prop} (gr : Gr H g t) (hi : IcOk t gs)
  (q : ∀ f, Snd (kys t.tN) gs f -> Cld gs f -> (∀ s, s ∉ kys t.tN -> f s = true) -> Q (.list (pick (fun k => !f k && !und t k) .str (ksOf t))) loc H) : zco F 155 [.ref g.g] [] [] loc H (fun X l H => ∃ X' H', Frz X H X' H' ∧ Q X' l H') := by
 refine defP ok W ["self"] (Vs := [.ref g.g]) rfl rfl rfl rfl rfl rfl ?_ rfl ?_
 ·intro vs ws B r1 r2 le
  apply r2.e0
  apply r1.e1
  intro _ a
  exact ⟨[_], Looks.of_peek W.k rfl, .cons a .nil⟩
 ·intro F' ok tp W hF
  refine zaa (sAsg ok hF rfl (zb7 fun d hd => ?_))
  have gD : ∀ xs, Gr (H.aD d xs) g t := fun xs => gr.upD hd xs
  have nT : d ≠ g.ts := (hd.neD gr.tT.dict).symm
  have nN : d ≠ g.nts := (hd.neD gr.tN.dict).symm
  have nR : d ≠ g.pn := (hd.neD gr.tR.dict).symm
  have dG : ∀ {b ep}, d ≠ b -> up H.G b ep d = none := fun h => (zak h).trans (gr.gn _)
  have kTl : (tof t.tT).length = (kys t.tT).length := by unfold tof kys; rw [List.length_map, List.length_map]
  have kNl : (tof t.tN).length = (kys t.tN).length := by unfold tof kys; rw [List.length_map, List.length_map]
  have zT : (kys t.tT).length ≤ 1000 := by unfold kys; rw [List.length_map]; exact hi.zT
  have zN : (kys t.tN).length ≤ 1000 := by unfold kys; rw [List.length_map]; exact hi.zN
  -- the tokens
  refine za0 (Ic1 H g t d) (fun Q1 b1 => zbn (zgn (zaq (gLoc ok hF rfl rfl (getG ok W (gD []) Fld.ts rfl ⟨_, _, rfl, (gD []).tT.dict, fun ep => ?_⟩))))) ?_
  ·refine za3 (fun i => zef i) (tof t.tT).length (Ic2 H g t d ep) ⟨none, rfl, rfl⟩ ?_ ?_
   ·rintro i Q2 b2 l H' hl ⟨a2, rfl, rfl⟩
    have hl' : i < (kys t.tT).length := kTl ▸ hl
    have hl2 : i < t.tT.length := by unfold tof at hl; rwa [List.length_map] at hl
    have ek : (kys t.tT)[i] = t.tT[i].1 := by simp [kys]
    refine ⟨.str (kys t.tT)[i], zgm (x := .ref t.tT[i].2.1) (gD (bvl (((kys t.tT).take i).map fun k => (k, true)))).tT.dict (zac _ _ _) rfl (by rw [ek]; simp [tof, hl2]), tLoc ok.inl hF rfl ?_⟩
    refine zaa (zqh eBl (eLoc ok.inl hF rfl rfl) (eLoc ok.inl hF rfl rfl) (zac _ _ _) (dG nT) (by rw [zlg, List.length_map, List.length_take]; exact Nat.le_trans (Nat.min_le_right _ _) (Nat.le_trans zT (by decide))) (zab ?_))
    refine b2.n ⟨_, rfl, ?_⟩
    rw [zlf (by rw [List.map_map]; show _ ∉ List.map id _; rw [List.map_id]; exact zeh gr.kT hl'), zao hl', List.map_append, aDG]; rfl
   ·rintro l H' ⟨a2, rfl, rfl⟩
    refine ⟨zc3 (ok.handled (Nat.succ_ne_zero _)) (gD (bvl (((kys t.tT).take (tof t.tT).length).map fun k => (k, true)))).tT.dict (zac _ _ _) rfl (Nat.le_refl _), ?_⟩
    rw [kTl, List.take_length]
    exact zb8 (zab (b1.n ⟨_, rfl, rfl⟩)) (zap.refl _) (subG (gr.gn _))
  rintro l H' ⟨a2, rfl, rfl⟩
  refine zaa (zqh eBl (eLoc ok hF rfl rfl) eStr (zac _ _ _) (gr.gn _) (by rw [zlg, List.length_map]; exact Nat.le_trans zT (by decide)) ?_)
  rw [zlf (by rw [List.map_map]; show _ ∉ List.map id _; rw [List.map_id]; exact hi.e1), aaD]
  -- the names
  refine za0 (Ic3 H g t d) (fun Q1 b1 => zbn (zgn (zaq (gLoc ok hF rfl rfl (getG ok W (gD (bvl ((kys t.tT).map (fun k => (k, true)) ++ [(Str.ofString "$end", true)]))) Fld.nts rfl ⟨_, _, rfl, (gD (bvl ((kys t.tT).map (fun k => (k, true)) ++ [(Str.ofString "$end", true)]))).tN.dict, fun ep => ?_⟩))))) ?_
  ·refine za3 (fun i => zef i) (tof t.tN).length (Ic4 H g t d a2 ep) ⟨none, rfl, by simp⟩ ?_ ?_
   ·rintro i Q2 b2 l H' hl ⟨a3, rfl, rfl⟩
    have hl' : i < (kys t.tN).length := kNl ▸ hl
    have hl2 : i < t.tN.length := by unfold tof at hl; rwa [List.length_map] at hl
    have ek : (kys t.tN)[i] = t.tN[i].1 := by simp [kys]
    refine ⟨.str (kys t.tN)[i], zgm (x := .ref t.tN[i].2.1) (gD (bvl ((kys t.tT).map (fun k => (k, true)) ++ [(Str.ofString "$end", true)] ++ ((kys t.tN).take i).map fun k => (k, false)))).tN.dict (zac _ _ _) rfl (by rw [ek]; simp [tof, hl2]), tLoc ok.inl hF rfl ?_⟩
    refine zaa (zqh eBl (eLoc ok.inl hF rfl rfl) (eLoc ok.inl hF rfl rfl) (zac _ _ _) (dG nN) (by rw [zlg, List.length_append, List.length_append, List.length_map, List.length_map, List.length_take]; exact len2 zT zN) (zab ?_))
    refine b2.n ⟨_, rfl, ?_⟩
    have hnew : (kys t.tN)[i] ∉ ((kys t.tT).map (fun k => (k, true)) ++ [(Str.ofString "$end", true)] ++ ((kys t.tN).take i).map fun k => (k, false)).map (·.1) := by
     rw [List.map_append, List.map_append, List.map_map, List.map_map]
     show _ ∉ List.map id _ ++ [Str.ofString "$end"] ++ List.map id _
     rw [List.map_id, List.map_id]
     intro hm
     rcases List.mem_append.mp hm with hm | hm
     ·rcases List.mem_append.mp hm with hm | hm
      ·exact hi.tn _ hm (List.getElem_mem _)
      ·exact hi.e2 (by rw [← List.mem_singleton.mp hm]; exact List.getElem_mem _)
     ·exact zeh gr.kN hl' hm
    rw [zlf hnew, zao hl', List.map_append, aDG, List.append_assoc (_ ++ _)]; rfl
   ·rintro l H' ⟨a3, rfl, rfl⟩
    refine ⟨zc3 (ok.handled (Nat.succ_ne_zero _)) (gD (bvl ((kys t.tT).map (fun k => (k, true)) ++ [(Str.ofString "$end", true)] ++ ((kys t.tN).take (tof t.tN).length).map fun k => (k, false)))).tN.dict (zac _ _ _) rfl (Nat.le_refl _), ?_⟩
    rw [kNl, List.take_length, zs4 hi.tn hi.e2]
    exact zb8 (zab (b1.n ⟨_, _, rfl, rfl⟩)) (zap.refl _) (subG (gr.gn _))
  rintro l H' ⟨a2, a3, rfl, rfl⟩
  -- the rounds
  have hm : ∀ {s : Str}, s ∈ kys t.tT ∨ s ∈ kys t.tN -> s ∈ ksOf t := fun h => hi.mem h
  have zK := hi.ksLen
  refine za0 (Ic5 H g t gs d) (fun Q1 b1 => zjz (Ic6 H g t gs d) _ ⟨_, _, _, _, _, _, _, _, rfl, rfl, fun s hs => .tok (by simpa using hs), rfl, fun s hs => by simp [hs]⟩ ?_) ?_
  ·rintro k Q2 b2 l H' ⟨f, a2, a3, a4, a5, a6, a7, a8, rfl, rfl, hs, hk, h0⟩
   refine ze4 (znp (zlt ⟨fun J => ?_, fun h => absurd h (by decide)⟩))
   have ok1 := ok.inl
   refine zaa (sA ok1 hF rfl eBl ?_)
   have hx := zs3 (ks := ksOf t) (fun e he => hm (.inr (hi.hd e he))) hs
   refine za0 (Ic7 H g t gs d f a2) (fun Q3 b3 => zbn (zfd (zaq (gLoc ok1 hF rfl rfl (getG ok1 W (gD (bv (ksOf t) f)) Fld.pn rfl ⟨_, _, rfl, (gD (bv (ksOf t) f)).tR.dict, fun ep => ?_⟩))))) ?_
   ·have eR : (tof t.tR).length = gs.length := by unfold tof; rw [List.length_map]; exact hi.len
    refine za3 (fun i => zei i) (tof t.tR).length (Ic8 H g t gs d f a2 ep) ⟨_, _, _, _, _, rfl, rfl⟩ ?_ ?_
    ·rintro i Q4 b4 l H' hl ⟨a3, a5, a6, a7, a8, rfl, rfl⟩
     have hl' : i < gs.length := eR ▸ hl
     obtain ⟨ar, har⟩ := hi.at_ hl'
     have hsn := zoy gs (f, false) hl'
     generalize pass (gs.take i) (f, false) = x at hsn
     obtain ⟨f1, c1⟩ := x
     dsimp only
     have ok2 := ok1.inl
     have g1 := gD (bv (ksOf t) f1)
     have hlist : ((H.aD d (bv (ksOf t) f1)) : Hp).L ar = some (psV gs[i].2) := g1.tR.lst _ (List.mem_of_getElem? har)
     have hge : gs[i] ∈ gs := List.getElem_mem _
     refine ⟨.tup [.str gs[i].1, .ref ar], zfc g1.tR.dict (zac _ _ _) rfl (by unfold tof; rw [List.getElem?_map, har]; rfl), zbg ok2 rfl (tLoc ok2 hF rfl (tLoc ok2 hF rfl ?_))⟩
     refine zaa (zbn (zcj (gLoc ok2 hF rfl rfl ⟨psV gs[i].2, hlist, ?_⟩)))
     refine za3 (fun j => zau j) gs[i].2.length (Ic9 H g t gs d a2 ep i hl' ar f1 c1) ⟨_, _, _, rfl, rfl, rfl⟩ ?_ ?_
     ·rintro j Q5 b5 l H' hj ⟨a6, a7, a8, hno, rfl, rfl⟩
      have ok3 := ok2.inl
      have hre : gs[i].2[j] ∈ gs[i].2 := List.getElem_mem _
      obtain ⟨hp1, hp2⟩ := hi.ps _ hge _ hre
      have hsg := hi.sg _ hge _ hre
      have hhit : hit f1 (gs[i].2.take (j + 1)) = gs[i].2[j].2.all f1 := by
       unfold hit at hno ⊢
       rw [zao hj, List.any_append, hno]; simp
      have hfin : gs[i].2[j].2.all f1 = true -> hit f1 gs[i].2 = true := fun h => List.any_eq_true.mpr ⟨_, hre, h⟩
      have hxj : (psV gs[i].2)[j]? = some (.inst 68 gs[i].2[j].1) := by simp [psV, hj]
      generalize gs[i].2[j] = r at hp1 hp2 hsg hhit hfin hxj
      refine ⟨.inst 68 r.1, zbh (xs := psV gs[i].2) hlist hxj, tLoc ok3 hF rfl ?_⟩
      refine za0 (Ic10 H g t gs d a2 ep i hl' ar f1 c1 r) (fun Q6 b6 => zbn (zir (zaq (gLoc ok3 hF rfl rfl (getI ok3 W hp1 rfl ⟨r.2.map .str, rfl, ?_⟩))))) ?_
      ·refine za3 (fun k => zee k) r.2.length (Ic11 H g t gs d a2 ep i hl' ar f1 c1 r) ⟨_, _, rfl, rfl, rfl⟩ ?_ ?_
       ·rintro k Q7 b7 l H' hk ⟨a7, a8, hall, rfl, rfl⟩
        have ok4 := ok3.inl
        refine ⟨.str r.2[k], ziq (by simp [hk]), tLoc ok4 hF rfl ?_⟩
        refine zaa (sIf (b := !f1 r.2[k]) (bNot (bB (zt9 (eLoc ok4 hF rfl rfl) (eLoc ok4 hF rfl rfl) (zac _ _ _) (zrg (hm (hsg _ (List.getElem_mem _))))))) (fun hb => ?_) (fun hb => zab (zab (b7.n ⟨_, _, ?_, rfl, rfl⟩))))
        ·refine zaa (sA ok4 hF rfl eBl (zaa (zid (b7.b (b6.n ⟨some (.str r.2[k]), ?_, rfl⟩)))))
         have : r.2.all f1 = false := by
          cases z : r.2.all f1 with
          | false => rfl
          | true =>
           have := List.all_eq_true.mp z _ (List.getElem_mem hk)
           rw [this] at hb; cases hb
         rw [this]; rfl
        ·rw [zao hk, List.all_append, hall]
         simpa using hb
       ·rintro l H' ⟨a7, a8, hall, rfl, rfl⟩
        rw [List.take_length] at hall
        refine ⟨zdm (ok3.handled (Nat.succ_ne_zero _)) (by simp), zaa (sA ok3.inl hF rfl eBl (zab (b6.n ⟨a7, ?_, rfl⟩)))⟩
        rw [hall]; rfl
      rintro l H' ⟨a7, rfl, rfl⟩
      refine zaa (sIf (b := r.2.all f1) (bB (eLoc ok3 hF rfl rfl)) (fun hb => ?_) (fun hb => zab (zab (b5.n ⟨_, _, _, hhit.trans hb, rfl, rfl⟩))))
      refine za0 (Ic12 H g t gs d a2 ep i hl' ar f1 c1 r a7) (fun Q6 b6 => sIf (b := !f1 gs[i].1) (bNot (bB (zt9 (eLoc ok3 hF rfl rfl) (eLoc ok3 hF rfl rfl) (zac _ _ _) (zrg (hm (.inr (hi.hd _ hge))))))) (fun hb2 => ?_) (fun hb2 => zab (b6.n ⟨?_, ?_⟩))) ?_
      ·refine zaa (zqh eBl (eLoc ok3 hF rfl rfl) (eLoc ok3 hF rfl rfl) (zac _ _ _) (dG nR) (by rw [zmm]; exact Nat.le_trans zK (by decide)) ?_)
       rw [zuh (hm (.inr (hi.hd _ hge))), aDG]
       refine zaa (sA ok3 hF rfl eBl (zab (b6.n ⟨?_, rfl⟩)))
       rw [hb2, Bool.or_true]; rfl
      ·rw [hb2, Bool.or_false]
      ·rw [zi6 (by simpa using hb2)]
      rintro l H' ⟨rfl, rfl⟩
      refine zaa (zid (b5.b (zab (b4.n ⟨some (.str gs[i].1), some (.ref ar), some (.inst 68 r.1), a7, some (.bool (r.2.all f1)), ?_, ?_⟩))))
      ·rw [hsn]; unfold stp; rw [if_pos (hfin hb)]
      ·rw [hsn]; unfold stp; rw [if_pos (hfin hb)]
     ·rintro l H' ⟨a6, a7, a8, hno, rfl, rfl⟩
      rw [List.take_length] at hno
      refine ⟨zan (xs := psV gs[i].2) (ok2.handled (Nat.succ_ne_zero _)) hlist (by simp [psV]), zab (zab (b4.n ⟨some (.str gs[i].1), some (.ref ar), a6, a7, a8, ?_, ?_⟩))⟩
      ·rw [hsn]; unfold stp; rw [if_neg (by rw [hno]; exact Bool.false_ne_true)]
      ·rw [hsn]; unfold stp; rw [if_neg (by rw [hno]; exact Bool.false_ne_true)]
    ·rintro l H' ⟨a3, a5, a6, a7, a8, rfl, rfl⟩
     refine ⟨zct (ok1.handled (Nat.succ_ne_zero _)) (gD (bv (ksOf t) (pass (gs.take (tof t.tR).length) (f, false)).1)).tR.dict (zac _ _ _) rfl (Nat.le_refl _), ?_⟩
     rw [eR, List.take_length]
     exact zb8 (zab (b3.n ⟨_, _, _, _, _, rfl, rfl⟩)) (zap.refl _) (subG (gr.gn _))
   rintro l H' ⟨a3, a5, a6, a7, a8, rfl, rfl⟩
   refine zaa (sIf (b := !(pass gs (f, false)).2) (bNot (bB (eLoc ok1 hF rfl rfl))) (fun hb => ?_) (fun hb => zab (zab (b2.n ⟨_, ?_, _, _, _, _, _, _, _, _, rfl, rfl, hx.snd, rfl, fun s hs => zj8 (h0 s hs)⟩))))
   ·have hb' : (pass gs (f, false)).2 = false := by simpa using hb
    refine zaa (zid (b2.b (b1.n ⟨_, _, _, _, _, _, _, _, rfl, rfl, hx.snd, ?_, fun s hs => zj8 (h0 s hs)⟩)))
    rw [hx.no hb']; exact zle hb'
   ·rw [← hk]; exact hx.ch (by simpa using hb)
  rintro l H' ⟨f, a2, a3, a4, a5, a6, a7, a8, rfl, rfl, hs, hc, h0⟩
  -- what is told
  refine zaa (sAsg ok hF rfl (za9 (zaf ⟨by simp, fun b hb => ?_⟩)))
  have hbf : H.Fresh b := (frD hb).2
  have gLD : ∀ xs, Gr ((H.aL b xs).aD d (bv (ksOf t) f)) g t := fun xs => (gD (bv (ksOf t) f)).upL hb xs
  refine zaa (zbn (zfd (gLoc ok hF rfl rfl ⟨d, bv (ksOf t) f, rfl, zac _ _ _, fun ep => ?_⟩)))
  refine za3 (fun i => zei i) (bv (ksOf t) f).length (Ic13 H g t d f a2 a3 a4 a5 a6 a8 b ep) ⟨_, _, rfl, rfl⟩ ?_ ?_
  ·rintro i Q2 b2 l H' hl ⟨a7, a10, rfl, rfl⟩
   have hl' : i < (ksOf t).length := zmm (ksOf t) f ▸ hl
   have gi := gLD (pick (fun k => !f k && !und t k) .str ((ksOf t).take i))
   have ok1 := ok.inl
   refine ⟨.tup [.str (ksOf t)[i], .bool (f (ksOf t)[i])], zfc (zac _ _ _) (zac _ _ _) rfl (by simp [bv, hl']), zbg ok1 rfl (tLoc ok1 hF rfl (tLoc ok1 hF rfl ?_))⟩
   refine zaa (sIf (b := !f (ksOf t)[i]) (bNot (bB (eLoc ok1 hF rfl rfl))) (fun hb1 => ?_) (fun hb1 => zab (zab (b2.n ⟨_, _, rfl, by rw [zhd hl' (by rw [hb1]; rfl)]⟩))))
   refine zaa (sIf (b := und t (ksOf t)[i]) (zua (bCmp (eLoc ok1 hF rfl rfl) (zbt (eLoc ok1 hF rfl rfl) fun J q => getG ok1 W gi Fld.pn rfl q) (zi5 gi.tR.dict)) (bCmp (eLoc ok1 hF rfl rfl) (zbt (eLoc ok1 hF rfl rfl) fun J q => getG ok1 W gi Fld.ts rfl q) (zi5 gi.tT.dict)) (bCmp (eLoc ok1 hF rfl rfl) eStr kNes)) (fun hb2 => ?_) (fun hb2 => ?_))
   ·refine zaa (zro (zab (zab (zab (b2.n ⟨_, _, rfl, by rw [zhd hl' (by rw [hb2]; exact Bool.and_false _)]⟩)))))
   ·refine zaa (sApp ok1 (eLoc ok1 hF rfl rfl) (zac _ _ _) (eLoc ok1 hF rfl rfl) (Nat.le_trans (zgq _ _ _ _) (Nat.le_trans zK (by decide))) (zab (zab (zab (b2.n ⟨_, _, rfl, ?_⟩)))))
    rw [zgp hl' (by rw [hb1, hb2]; rfl), aLDG]
  ·rintro l H' ⟨a7, a10, rfl, rfl⟩
   rw [zmm, List.take_length]
   refine ⟨zct (ok.handled (Nat.succ_ne_zero _)) (zac _ _ _) (zac _ _ _) (zmm _ _) (Nat.le_refl _), zab ?_⟩
   refine zb8 (zb8 (zaa (zbc (gLoc ok hF rfl rfl (zgc hbf (q f hs hc h0))))) (zap.refl _) (subD hd.d (gr.gn _))) (zap.refl _) (subG (gr.gn _))
end
section
variable {P : Params} {F : Fx} {n : Nat} {loc : Loc} {H : Hp}
noncomputable def rsOf (gs : Gs) (s : Str) : Rs := match gs.find? (fun e => decide (e.1 = s)) with
 | some e => e.2
 | none => []
noncomputable def sucs (gs : Gs) (s : Str) : List Str := (rsOf gs s).flatMap (·.2)
inductive Rc (gs : Gs) (s : Str) : Str -> Prop
 | refl : Rc gs s s
 | step {x y} : Rc gs s x -> y ∈ sucs gs x -> Rc gs s y
theorem Rc.from {gs : Gs} {s r x : Str} (h : r ∈ sucs gs s) (k : Rc gs r x) : Rc gs s x := by
 induction k with
 | refl => exact .step .refl h
 | step _ hy ih => exact .step ih hy
structure Vis (gs : Gs) (s : Str) (S S' : Str -> Bool) : Prop where
 le : ∀ x, S x = true -> S' x = true
 snd : ∀ x, S' x = true -> S x = true ∨ Rc gs s x
 cls : ∀ x, S' x = true -> S x = false -> ∀ y ∈ sucs gs x, S' y = true
theorem Vis.refl (gs : Gs) (s : Str) (S : Str -> Bool) : Vis gs s S S := ⟨fun J h => h, fun J h => .inl h, fun x h h' => by rw [h] at h'; cases h'⟩
theorem Vis.then {gs : Gs} {s r : Str} {S1 S2 S3 : Str -> Bool} (h : Vis gs s S1 S2) (hr : r ∈ sucs gs s) (k : Vis gs r S2 S3) : Vis gs s S1 S3 where
 le := fun x hx => k.le x (h.le x hx)
 snd := fun x hx => by
  rcases k.snd x hx with z | z
  ·exact h.snd x z
  ·exact .inr (z.from hr)
 cls := fun x hx h1 y hy => by
  cases h2 : S2 x with
  | true => exact k.le y (h.cls x h2 h1 y hy)
  | false => exact k.cls x hx h2 y hy
theorem Vis.fin {gs : Gs} {s : Str} {S S' : Str -> Bool} (h : Vis gs s (upd S s) S') (hc : ∀ y ∈ sucs gs s, S' y = true) : Vis gs s S S' ∧ S' s = true := by
 have hs : upd S s s = true := by simp [upd]
 refine ⟨⟨fun x hx => h.le x (by simp [upd, hx]), fun x hx => ?_, fun x hx h1 y hy => ?_⟩, h.le s hs⟩
 ·rcases h.snd x hx with z | z
  ·by_cases e : x = s
   ·subst e; exact .inr .refl
   ·exact .inl (by simpa [upd, e] using z)
  ·exact .inr z
 ·by_cases e : x = s
  ·subst e; exact hc y hy
  ·exact h.cls x hx (by simp [upd, e, h1]) y hy
theorem zo0 {U : List Str} {S S' : Str -> Bool} (h : ∀ x, S x = true -> S' x = true) : left U S' ≤ left U S := by
 unfold left
 induction U with
 | nil => exact Nat.le_refl _
 | cons a U ih =>
  rw [List.filter_cons, List.filter_cons]
  cases h1 : S a with
  | true => rw [h a h1]; exact ih
  | false =>
   cases S' a with
   | true => exact Nat.le_succ_of_le ih
   | false => exact Nat.succ_le_succ ih
noncomputable def zq3 : Option Stmt := (fnB (tm 6 6)).head?
noncomputable abbrev mkNm : List (Str × NameKind) := [("s", .local), ("p", .local), ("r", .local), ("mark_reachable_from", .free), ("reachable", .free), ("self", .free)]
theorem zj9 {f : Addr} {fo : Obj} {fd : FuncData} (h : (f, fo) ∈ F.c.saved) (hd : fo.data = .func fd) : zc6 F (.ref f) loc H := fun B s v R r => by
 obtain rfl := r.rI
 obtain ⟨⟨o, ho, hs⟩, _⟩ := R.sv _ h
 have e := hs.same (fun es ep z => by rw [hd] at z; cases z) (fun z => by dsimp only at z; subst z; cases hd)
 subst e
 refine ⟨.frame, fun Q q => ?_⟩
 unfold keeperOf
 refine wpAny_bind (wpAny_load ho ?_)
 rw [hd]
 exact wpAny_pure q
theorem zqn {l l' : List (Addr × Obj)} {f : Addr} {fd : FuncData} {body : List Stmt} {pn : Str} (W : Clo l f fd body pn) (h : ∀ p ∈ l, p ∈ l') : Clo l' f fd body pn :=
 { W with
  at_ := let ⟨fo, h1, h2⟩ := W.at_; ⟨fo, h _ h1, h2⟩
  code := let ⟨c, co, vs, t, h1, h2, h3⟩ := W.code; ⟨c, co, vs, t, h1, h _ h2, h3⟩ }
structure FuSt (H : Hp) (g : GA) (t : GT) (gs : Gs) (U : List Str) (f cs cm cr rs : Addr) : Prop where
 gr : Gr H g t
 R : tcon t.tR = gs.map fun e => (e.1, psV e.2)
 ps : ∀ e ∈ gs, PsOk e.2
 self : H.C cs = some (some (.ref g.g))
 mark : H.C cm = some (some (.ref f))
 reach : H.C cr = some (some (.ref rs))
 ne : g.ups ≠ rs
 out : ∀ x ∈ U, ∀ y ∈ sucs gs x, y ∈ U
 zU : U.length ≤ 1000
noncomputable def HS (H : Hp) (rs : Addr) (S : Str -> Bool) (m : Nat) : Hp := (H.aS rs (S, m))
theorem FuSt.grS {g : GA} {t : GT} {gs : Gs} {U : List Str} {f cs cm cr rs : Addr} (h : FuSt H g t gs U f cs cm cr rs) (S : Str -> Bool) (m : Nat) : Gr (HS H rs S m) g t :=
 h.gr.keep (fun J J => rfl) (fun J J => rfl) rfl (zak h.ne) rfl rfl h.gr.gn
theorem FuSt.rules {g : GA} {t : GT} {gs : Gs} {U : List Str} {f cs cm cr rs : Addr} (h : FuSt H g t gs U f cs cm cr rs) (s : Str) : asL H ((dget (tof t.tR) s).getD (.list [])) = some (psV (rsOf gs s)) := by
 have key : ∀ (l : Tab) (gl : Gs), tcon l = gl.map (fun e => (e.1, psV e.2)) -> (∀ e ∈ l, H.L e.2.1 = some e.2.2) -> asL H ((dget (tof l) s).getD (.list [])) = some (psV (rsOf gl s)) := by
  intro l
  induction l with
  | nil =>
   intro gl hg _
   cases gl with
   | nil => rfl
   | cons _ _ => cases hg
  | cons e l ih =>
   intro gl hg hL
   cases gl with
   | nil => cases hg
   | cons e' gl =>
    unfold tcon at hg
    rw [List.map_cons, List.map_cons, List.cons.injEq, Prod.mk.injEq] at hg
    obtain ⟨⟨h1, h2⟩, h3⟩ := hg
    have ih := ih gl h3 (fun x hx => hL x (.tail _ hx))
    unfold dget tof rsOf at ih ⊢
    rw [List.map_cons, List.find?_cons, List.find?_cons]
    dsimp only
    rw [h1]
    by_cases z : e'.1 = s
    ·simp only [z, decide_true, Option.map_some, Option.getD_some]
     show H.L e.2.1 = _
     rw [hL e (.head _), h2]
    ·simp only [z, decide_false]
     exact ih
 exact key t.tR gs h.R h.gr.tR.lst
theorem FuSt.rsOk {g : GA} {t : GT} {gs : Gs} {U : List Str} {f cs cm cr rs : Addr} (h : FuSt H g t gs U f cs cm cr rs) (s : Str) : PsOk (rsOf gs s) := by
 unfold rsOf
 cases e : gs.find? (fun e => decide (e.1 = s)) with
 | none => intro r hr; cases hr
 | some x => exact h.ps x (List.mem_of_find?_eq_some e)
inductive Mk1 (H : Hp) (gs : Gs) (U : List Str) (rs : Addr) (s : Str) (S : Str -> Bool) (rl : Rs) (i : Nat) (l : Loc) (H' : Hp) : Prop
 | mk (S1 : Str -> Bool) (m1 : Nat) (a1 : Option V) (a2 : Option V) (_ : l = [some (.str s), a1, a2, none, none, none]) (_ : HS H rs S1 m1 = H') (_ : Vis gs s (upd S s) S1) (_ : (∀ y ∈ (rl.take i).flatMap (·.2), S1 y = true)) (_ : m1 + left U S1 ≤ U.length) : Mk1 H gs U rs s S rl i l H'
inductive Mk2 (H : Hp) (gs : Gs) (U : List Str) (rs : Addr) (s : Str) (S : Str -> Bool) (rl : Rs) (i : Nat) (r : List (Str × V) × List Str) (j : Nat) (l : Loc) (H' : Hp) : Prop
 | mk (S2 : Str -> Bool) (m2 : Nat) (a2 : Option V) (_ : l = [some (.str s), some (.inst 68 r.1), a2, none, none, none]) (_ : HS H rs S2 m2 = H') (_ : Vis gs s (upd S s) S2) (_ : (∀ y ∈ (rl.take i).flatMap (·.2) ++ r.2.take j, S2 y = true)) (_ : m2 + left U S2 ≤ U.length) : Mk2 H gs U rs s S rl i r j l H'
theorem zo1 {g : GA} {t : GT} {gs : Gs} {U : List Str} {f cs cm cr rs : Addr} {fd : FuncData} {fo : Obj} (h : FuSt H g t gs U f cs cm cr rs) (hnm : fd.scope.names = mkNm) (hcl : fd.closure = ([("self", cs), ("reachable", cr), ("mark_reachable_from", cm)] : List (Str × Addr))) (hfd : fo.data = .func fd) :
  ∀ (k : Nat) {F : Fx} {loc : Loc} {s : Str} {S : Str -> Bool} {m : Nat} {Q : V -> Loc -> Hp -> Prop}, Ok F (k + 5) -> Wd (K P) F.c.base -> (f, fo) ∈ F.c.saved -> Clo F.c.saved f fd (fnB zq3) "s" -> s ∈ U -> left U S ≤ k -> m + left U S ≤ U.length →
   (∀ S' m', Vis gs s S S' -> S' s = true -> m' + left U S' ≤ U.length -> Q .none loc (HS H rs S' m')) -> Call F (.ref f) [.str s] loc (HS H rs S m) Q := by
 intro k
 induction k with
 | zero =>
  intro F loc s S m Q ok W hf hW hs hk hm q
  refine zmc (n := 4) ok W.nolim hW fun oL A L E ok' tp => ?_
  have hF : zah ⟨F.c.sv ((F.L, oL) :: F.c.saved), A, callEnv fd L f, E⟩ mkNm [("self", cs), ("reachable", cr), ("mark_reachable_from", cm)] := ⟨hnm, hcl⟩
  rw [hnm]
  have hS : S s = true := by
   cases z : S s with
   | true => rfl
   | false =>
    have := ze1 hs z
    lia
  refine zaa (sIf (b := true) (EvB.cast (b := S s) (bCmp (eLoc ok' hF rfl rfl) (zsm ok' hF rfl rfl h.reach) fun J q => zk6 (zac _ _ _) q) hS) (fun J => ?_) (fun hb => absurd hb (by decide)))
  exact zaa (zek (q S m (Vis.refl _ _ _) hS hm))
 | succ k ih =>
  intro F loc s S m Q ok W hf hW hs hk hm q
  refine zmc (n := k + 5) ok W.nolim hW fun oL A L E ok' tp => ?_
  have hF : zah ⟨F.c.sv ((F.L, oL) :: F.c.saved), A, callEnv fd L f, E⟩ mkNm [("self", cs), ("reachable", cr), ("mark_reachable_from", cm)] := ⟨hnm, hcl⟩
  have hf' : (f, fo) ∈ (F.L, oL) :: F.c.saved := .tail _ hf
  have hW' : Clo ((F.L, oL) :: F.c.saved) f fd (fnB zq3) "s" := zqn hW fun p hp => .tail _ hp
  have W' : Wd (K P) (F.c.sv ((F.L, oL) :: F.c.saved)).base := W
  rw [hnm]
  generalize eF : (⟨F.c.sv ((F.L, oL) :: F.c.saved), A, callEnv fd L f, E⟩ : Fx) = F1 at ok' tp hF ⊢
  have e1 : F1.c = F.c.sv ((F.L, oL) :: F.c.saved) := by rw [← eF]
  have W1 : Wd (K P) F1.c.base := by rw [e1]; exact W'
  have hf1 : (f, fo) ∈ F1.c.saved := by rw [e1]; exact hf'
  have hW1 : Clo F1.c.saved f fd (fnB zq3) "s" := by rw [e1]; exact hW'
  refine zaa (sIf (b := S s) (bCmp (eLoc ok' hF rfl rfl) (zsm ok' hF rfl rfl h.reach) fun J q => zk6 (zac _ _ _) q) (fun hb => zaa (zek (q S m (Vis.refl _ _ _) hb hm))) (fun hb => zab ?_))
  have hlt := ze1 hs hb
  have hz := h.zU
  refine zaa (znf ok' (zsm ok' hF rfl rfl h.reach) (fun J q => zl9 (zac _ _ _) q) (zaj (eLoc ok' hF rfl rfl) eNil) (zcq ok') (zma (zac _ _ _) (h.gr.gn _) (show m ≤ 4000 by lia) ?_))
  have eS : addS (S, m) s = (upd S s, m + 1) := by
   show ((fun x => S x || decide (x = s)), if S s = true then m else m + 1) = _
   rw [if_neg (by rw [hb]; exact Bool.false_ne_true)]; rfl
  rw [eS]
  have eH : (((HS H rs S m).aS rs (upd S s, m + 1)) : Hp) = HS H rs (upd S s) (m + 1) := by show Hp.mk _ _ _ (up (up _ _ _) _ _) _ _ _ = Hp.mk _ _ _ (up _ _ _) _ _ _; rw [zd3]; rfl
  rw [eH]
  have hm1 : m + 1 + left U (upd S s) ≤ U.length := by lia
  have hk1 : left U (upd S s) ≤ k := by lia
  have hX := h.rules s
  have hro := h.rsOk s
  refine zaa (zbn (zcj (zc1 (zaq (zr7 ok' hF rfl rfl h.self (getG ok' W1 (h.grS _ _) Fld.pn rfl (zde (h.grS _ _).tR.dict (zag (gLoc ok' hF rfl rfl (zag (zdp (zaf ⟨by simp, zaf ⟨zcq ok', zdf (h.grS _ _).tR.dict ⟨psV (rsOf gs s), hX, ?_⟩⟩⟩))))))))))))
  generalize (dget (tof t.tR) s).getD (.list []) = XV at hX
  have hsu : sucs gs s = (rsOf gs s).flatMap (·.2) := rfl
  generalize rsOf gs s = rl at hX hro hsu
  refine za3 (fun i => zau i) rl.length (Mk1 H gs U rs s S rl) ⟨_, _, none, none, rfl, rfl, Vis.refl _ _ _, (by simp), hm1⟩ ?_ ?_
  ·rintro i Q1 b1 l H' hi ⟨S1, m1, a1, a2, rfl, rfl, hv, hd, hm2⟩
   have hre : rl[i] ∈ rl := List.getElem_mem _
   obtain ⟨hp1, hp2⟩ := hro _ hre
   have hxj : (psV rl)[i]? = some (.inst 68 rl[i].1) := by simp [psV, hi]
   have htk : (rl.take (i + 1)).flatMap (·.2) = (rl.take i).flatMap (·.2) ++ rl[i].2 := by rw [zao hi, List.flatMap_append]; simp
   have hin : ∀ y ∈ rl[i].2, y ∈ sucs gs s := fun y hy => by rw [hsu]; exact List.mem_flatMap.mpr ⟨_, hre, hy⟩
   generalize rl[i] = r at hp1 hp2 hxj htk hin
   refine ⟨.inst 68 r.1, zbh (xs := psV rl) hX hxj, tLoc ok'.inl hF rfl ?_⟩
   refine zaa (zbn (zir (zaq (gLoc ok'.inl hF rfl rfl (getI ok'.inl W1 hp1 rfl ⟨r.2.map .str, rfl, ?_⟩)))))
   refine za3 (fun j => zee j) r.2.length (Mk2 H gs U rs s S rl i r) ⟨_, _, _, rfl, rfl, hv, (by simpa using hd), hm2⟩ ?_ ?_
   ·rintro j Q2 b2 l H' hj ⟨S2, m2, a2, rfl, rfl, hv2, hd2, hm3⟩
    have hy : r.2[j] ∈ r.2 := List.getElem_mem _
    refine ⟨.str r.2[j], ziq (by simp [hj]), tLoc ok'.inl.inl hF rfl ?_⟩
    refine zaa (zm4 ok'.inl.inl (zav (zr7 ok'.inl.inl hF rfl rfl h.mark (zag (gLoc ok'.inl.inl hF rfl rfl (zaf ⟨zj9 hf1 hfd, ?_⟩))))))
    refine ih ok'.inl.inl W1 hf1 hW1 (h.out s hs _ (hin _ hy)) (Nat.le_trans (zo0 hv2.le) hk1) hm3 fun S3 m3 hv3 h3 hm4 => zab (b2.n ⟨S3, m3, _, rfl, rfl, hv2.then (hin _ hy) hv3, fun y hy' => ?_, hm4⟩)
    rw [zao hj, ← List.append_assoc] at hy'
    rcases List.mem_append.mp hy' with z | z
    ·exact hv3.le _ (hd2 y z)
    ·rw [List.mem_singleton] at z; subst z; exact h3
   ·rintro l H' ⟨S2, m2, a2, rfl, rfl, hv2, hd2, hm3⟩
    rw [List.take_length] at hd2
    refine ⟨zdm (ok'.inl.handled (Nat.succ_ne_zero _)) (by simp), zab (zab (b1.n ⟨S2, m2, _, _, rfl, rfl, hv2, by rw [htk]; exact hd2, hm3⟩))⟩
  ·rintro l H' ⟨S1, m1, a1, a2, rfl, rfl, hv, hd, hm2⟩
   rw [List.take_length] at hd
   obtain ⟨h1, h2⟩ := hv.fin (by rw [hsu]; exact hd)
   exact ⟨zan (xs := psV rl) (ok'.handled (Nat.succ_ne_zero _)) hX (by simp [psV]), zab (zab (q S1 m1 h1 h2 hm2))⟩
end
section
variable {P : Params} {F : Fx} {n : Nat} {loc : Loc} {H : Hp}
theorem subS {u : Addr} {x} (h : H.S u = none) : H.Sub (H.aS u x) := fun a => by
 by_cases e : a = u
 ·subst e; exact ⟨.inr rfl, .inr rfl, .inr rfl, .inl h, .inr rfl, .inr rfl, .inr ⟨rfl, rfl⟩⟩
 ·exact ⟨.inr rfl, .inr rfl, .inr rfl, .inr (zak e).symm, .inr rfl, .inr rfl, .inr ⟨rfl, rfl⟩⟩
noncomputable def flt (p : Str -> Bool) : V -> Option V
 | .str s => if p s then some (.str s) else none
 | _ => none
theorem zfy (p : Str -> Bool) : ∀ l : List Str, (l.map V.str).filterMap (flt p) = (l.filter p).map V.str
 | [] => rfl
 | s :: r => by
  have ih := zfy p r
  have e : flt p (.str s) = if p s then some (.str s) else none := rfl
  rw [List.map_cons, List.filterMap_cons, e, List.filter_cons]
  by_cases h : p s = true
  ·rw [if_pos h, if_pos h]; exact congrArg (V.str s :: ·) ih
  ·rw [if_neg h, if_neg h]; exact ih
theorem zs6 {m : Nat} (ok : Ok F (m + 6)) (W : Wd (K P) F.c.base) (N : Nest F.c.base 147 145) (hP : (145, zf3 #[]) ∈ F.c.saved) (hne : F.L ≠ 145) {g : GA} {t : GT} {gs : Gs} {st : Str} {fs0 : List (Str × V)} {Q : V -> Loc -> Hp -> Prop} (gr : Gr H g t) (hi : IcOk t gs) (hU : (ksOf t).length ≤ m) (hm : m ≤ 1000) (hs : st ∈ kys t.tN) (h0 : t.ps[0]? = some (.inst 68 fs0)) (hp0 : dget fs0 "prod" = some (.tup [.str st]))
  (q : ∀ S' : Str -> Bool, (∀ x, S' x = true ↔ Rc gs st x) -> Q (.list (((kys t.tN).filter fun k => !S' k).map .str)) loc H) : zq1 F (zbe 145 F.c.saved) (.ref 148) [.ref g.g] loc H Q := by
 refine zu7 ok W ["self"] (Vs := [.ref g.g]) (zm9 ⟨_, hP⟩) rfl rfl rfl rfl rfl ?_ rfl fun oL L A E ok tp hF hf => ?_
 ·intro vs ws B r1 r2 le
  apply r2.e0
  apply r1.e1
  intro _ a
  exact ⟨[_], Looks.of_peek W.k rfl, .cons a .nil⟩
 ·have hf1 : H.Fresh (L + 1) := hf "self" (L + 1) (by with_unfolding_all exact .tail _ (.tail _ (.head _)))
  have hf2 : H.Fresh (L + 1 + 1) := hf "mark_reachable_from" (L + 1 + 1) (by with_unfolding_all exact .tail _ (.head _))
  have hf3 : H.Fresh (L + 1 + 1 + 1) := hf "reachable" (L + 1 + 1 + 1) (by with_unfolding_all exact .head _)
  have n12 : L + 1 ≠ L + 1 + 1 := Nat.ne_of_lt (Nat.lt_succ_self _)
  have n13 : L + 1 ≠ L + 1 + 1 + 1 := Nat.ne_of_lt (Nat.lt_succ_of_lt (Nat.lt_succ_self _))
  have n23 : L + 1 + 1 ≠ L + 1 + 1 + 1 := Nat.ne_of_lt (Nat.lt_succ_self _)
  show WSsx _ _ _ _ (((H.aC (L + 1) (some (.ref g.g))).aC (L + 1 + 1) none).aC (L + 1 + 1 + 1) none) _
  generalize eF : (⟨F.c.sv ((F.L, oL) :: F.c.saved), A, callEnvC _ L 148, E⟩ : Fx) = F1 at ok tp hF ⊢
  have e1 : F1.c = F.c.sv ((F.L, oL) :: F.c.saved) := by rw [← eF]
  have W1 : Wd (K P) F1.c.base := by rw [e1]; exact W
  have N1 : Nest F1.c.base 147 145 := by rw [e1]; exact N
  have hP1 : (145, zf3 #[]) ∈ F1.c.saved := by rw [e1]; exact .tail _ hP
  have hc1 : F1.env.code = .ref 147 := by rw [← eF]; rfl
  refine WSsx.svmem (l1 := zbe 145 F1.c.saved) ?_ (by rw [e1]; exact zk8 hne)
  refine zp7 ok hF N1 hc1 hP1 (ca := L + 1 + 1) (ov := none) rfl rfl (by show up (up (up H.C _ _) _ _) _ _ _ = _; rw [zak n23, zac]) (zds hF rfl) (fun J => rfl) (fun J => rfl) fun f fo c' co doc pm ctv vs t0 hfo hco hv ok2 => ?_
  have W2 : Wd (K P) (F1.svd ((f, fo) :: (c', co) :: zbe 145 F1.c.saved)).c.base := W1
  have hF2 : zah (F1.svd ((f, fo) :: (c', co) :: zbe 145 F1.c.saved)) _ _ := hF
  have hin : (f, fo) ∈ (F1.svd ((f, fo) :: (c', co) :: zbe 145 F1.c.saved)).c.saved := List.mem_cons_self ..
  have hin2 : (c', co) ∈ (F1.svd ((f, fo) :: (c', co) :: zbe 145 F1.c.saved)).c.saved := List.mem_cons_of_mem _ (List.mem_cons_self ..)
  generalize (F1.svd ((f, fo) :: (c', co) :: zbe 145 F1.c.saved)) = F2 at ok2 W2 hF2 hin hin2 ⊢
  have hClo : Clo F2.c.saved f _ (fnB zq3) "s" := { at_ := ⟨fo, hin, hfo⟩, code := ⟨c', co, vs, t0, rfl, hin2, hco, hv, (Array.getElem?_eq_some_iff.mp hv).1⟩, body := rfl, glob := rfl, bi := rfl, kind := rfl, co := rfl, gen := rfl, dbg := rfl, cell := (by show ∀ x ∈ mkNm, x.2 ≠ .cell; decide), loc := rfl, bind := fun v => rfl }
  refine zaa (zho ok2 hF2 rfl rfl (zav (gBi ok2 W2 hF2 rfl rfl (by boot_by_name) (by decide) (zaf ⟨zcq ok2, zjr fun rs hrs => ⟨⟨none, by show up (up (up (up H.C _ _) _ _) _ _) _ _ _ = _; rw [zak n23.symm, zac]⟩, ?_⟩⟩))))
  have hrs0 : H.Fresh rs := (frC (frC (frC (frC hrs).2).2).2).2
  generalize eC : up (up (up (up (up H.C (L + 1) (some (.ref g.g))) (L + 1 + 1) none) (L + 1 + 1 + 1) none) (L + 1 + 1) (some (.ref f))) (L + 1 + 1 + 1) (some (.ref rs)) = C4
  have hSt : FuSt { H with C := C4 } g t gs (ksOf t) f (L + 1) (L + 1 + 1) (L + 1 + 1 + 1) rs := by
   subst eC
   refine ⟨gr.keep (fun J J => rfl) (fun J J => rfl) rfl rfl rfl rfl gr.gn, hi.R, hi.ps, ?_, ?_, zac _ _ _, hrs0.neS gr.ups, fun x J y hy => ?_, Nat.le_trans hU hm⟩
   ·show up (up (up (up (up H.C _ _) _ _) _ _) _ _) _ _ _ = _
    rw [zak n13, zak n12, zak n13, zak n12, zac]
   ·show up (up (up (up (up H.C _ _) _ _) _ _) _ _) _ _ _ = _
    rw [zak n23, zac]
   ·unfold sucs at hy
    obtain ⟨r, hr, hy⟩ := List.mem_flatMap.mp hy
    unfold rsOf at hr
    cases e : gs.find? (fun e => decide (e.1 = x)) with
    | none => rw [e] at hr; cases hr
    | some z => rw [e] at hr; exact hi.mem (hi.sg z (List.mem_of_find?_eq_some e) r hr y hy)
  have hsub : Hp.Sub H { H with C := C4 } := by
   subst eC
   refine fun a => ⟨.inr rfl, .inr rfl, .inr rfl, .inr rfl, .inr rfl, ?_, .inr ⟨rfl, rfl⟩⟩
   by_cases z3 : a = L + 1 + 1 + 1
   ·subst z3; exact .inl hf3.c
   by_cases z2 : a = L + 1 + 1
   ·subst z2; exact .inl hf2.c
   by_cases z1 : a = L + 1
   ·subst z1; exact .inl hf1.c
   refine .inr ?_
   show _ = up (up (up (up (up H.C _ _) _ _) _ _) _ _) _ _ _
   rw [zak z3, zak z2, zak z3, zak z2, zak z1]
  generalize eH4 : ({ H with C := C4 } : Hp) = H4 at hSt hsub
  have hg4 : H4.S rs = none := by rw [← eH4]; exact hrs0.s
  refine zb8 (H' := HS H4 rs (fun J => false) 0) ?_ (zap.refl _) (by subst eH4; subst eC; exact Hp.Sub.refl _)
  have g0 := hSt.grS (fun J => false) 0
  refine zaa (zm4 ok2 (zav (zk2 ok2 hF2 rfl rfl hSt.mark (zag (zat (zaq (zat (zaq (zk2 ok2 hF2 rfl rfl hSt.self (getG ok2 W2 g0 Fld.prods rfl (zbu (zb4 (i := 0) g0.ps (by decide) (by decide) h0 (getI ok2 W2 hp0 rfl (zbu (zku (i := 0) (x := .str st) (by decide) (by decide) rfl (zaf ⟨zj9 hin hfo, ?_⟩))))))))))))))))
  refine zo1 hSt rfl rfl hfo m ok2 W2 hin hClo (hi.mem (.inr hs)) (Nat.le_trans (List.length_filter_le _ _) hU) (by rw [Nat.zero_add]; exact List.length_filter_le _ _) fun S' m' hv hst J => ?_
  have hS' : ∀ x, S' x = true ↔ Rc gs st x := fun x => ⟨fun hx => (hv.snd x hx).resolve_left Bool.false_ne_true, fun hx => by
   induction hx with
   | refl => exact hst
   | step _ hy ih => exact hv.cls _ ih rfl _ hy⟩
  have g1 := hSt.grS S' m'
  refine zaa (zbc (zin (Q' := fun X l H' => X = .list (((kys t.tN).filter fun k => !S' k).map .str) ∧ ∃ ep, H' = ((HS H4 rs S' m').aG g.nts ep)) (zcy ok2 [("reachable", L + 1 + 1 + 1)] (.inr ⟨_, rfl⟩) (zds hF2 rfl) (by decide) rfl (zcf ok2 rfl) (by decide) (zgn (zaq (zk2 ok2 hF2 rfl rfl hSt.self (getG ok2 W2 g1 Fld.nts rfl ⟨_, _, rfl, g1.tN.dict, fun ep => ⟨(kys t.tN).map .str, flt fun k => !S' k, ⟨fun i => zef i, by rw [List.length_map]; unfold kys; rw [List.length_map]; exact Nat.le_trans hi.zN (by decide), fun C sv E okc => ⟨zm0, fun i x hx => ?_, ?_⟩⟩, by rw [zfy], ep, rfl⟩⟩))))) ?_))
  ·rw [List.getElem?_map] at hx
   obtain ⟨s, hs, rfl⟩ := Option.map_eq_some_iff.mp hx
   have hil : i < t.tN.length := by
    have := (List.getElem?_eq_some_iff.mp hs).1
    unfold kys at this; rwa [List.length_map] at this
   have hse : s = t.tN[i].1 := by
    unfold kys at hs
    rw [List.getElem?_map, List.getElem?_eq_getElem hil] at hs
    exact (Option.some.inj hs).symm
   refine ⟨zgm (x := .ref t.tN[i].2.1) g1.tN.dict (zac _ _ _) rfl (by rw [hse]; simp [tof, hil]), ?_⟩
   refine tLoc okc (zai ok2 hF2) rfl ⟨rfl, zay (gLoc okc (zai ok2 hF2) rfl rfl (zk2 okc (zai ok2 hF2) rfl rfl hSt.reach (zm6 (zac _ _ _) ⟨rfl, fun hb => gLoc okc (zai ok2 hF2) rfl rfl ⟨rfl, ?_⟩, fun hb => ?_⟩)))⟩
   ·show (if (!S' s) = true then some (V.str s) else none) = some (V.str s)
    rw [if_pos hb]
   ·show (if (!S' s) = true then some (V.str s) else none) = none
    rw [if_neg (by rw [show (!S' s) = false from hb]; exact Bool.false_ne_true)]
  ·have e : (tof t.tN).length = ((kys t.tN).map V.str).length := by unfold tof kys; rw [List.length_map, List.length_map, List.length_map]
   exact zc3 (okc.handled (Nat.succ_ne_zero _)) g1.tN.dict (zac _ _ _) rfl (Nat.le_of_eq e)
  ·rintro X l H' ⟨rfl, ep, rfl⟩
   refine ⟨l, H, zap.refl _, ?_, q S' hS'⟩
   refine hsub.trans (Hp.Sub.trans (H2 := HS H4 rs S' m') (subS hg4) (subG (g1.gn _)))
end
section
variable {P : Params} {F : Fx} {n : Nat} {loc : Loc} {H : Hp}
noncomputable abbrev abcd : List Str := ["A", "B", "C", "D"]
noncomputable abbrev zaz : List Str := ["x", "y", "z", "error", "A", "B", "C", "D"]
noncomputable abbrev zca : List Str := ["x", "p", "q", "y", "r", "s"]
noncomputable abbrev zfm : List Str := ["left", "right", "nonassoc"]
theorem zs7 (ok : Ok F (n + 1)) (W : Wd (K P) F.c.base) {Q : V -> Loc -> Hp -> Prop} (q : Q (.list (zaz.map .str)) loc H) : Call F (.ref 248) [] loc H Q := by
 refine zbv (defP ok W [] (Vs := []) rfl rfl rfl rfl rfl rfl ?_ rfl ?_)
 ·intro vs ws B r1 r2 le
  apply r2.e0
  apply r1.e0
  exact ⟨[], Looks.of_peek W.k rfl, .nil⟩
 ·intro F' ok tp W hF
  exact zaa (sRet (zeo (zaj eStr (zaj eStr (zaj eStr (zaj eStr (zaj eStr (zaj eStr (zaj eStr (zaj eStr eNil))))))))) q)
theorem zs8 (ok : Ok F (n + 1)) (W : Wd (K P) F.c.base) {Q : V -> Loc -> Hp -> Prop} (q : Q (.list (zca.map .str)) loc H) : Call F (.ref 255) [] loc H Q := by
 refine zbv (defP ok W [] (Vs := []) rfl rfl rfl rfl rfl rfl ?_ rfl ?_)
 ·intro vs ws B r1 r2 le
  apply r2.e0
  apply r1.e0
  exact ⟨[], Looks.of_peek W.k rfl, .nil⟩
 ·intro F' ok tp W hF
  exact zaa (sRet (zeo (zaj eStr (zaj eStr (zaj eStr (zaj eStr (zaj eStr (zaj eStr eNil))))))) q)
theorem zs9 (ok : Ok F (n + 1)) (W : Wd (K P) F.c.base) {Q : V -> Loc -> Hp -> Prop} (q : Q (.list (zfm.map .str)) loc H) : Call F (.ref 262) [] loc H Q := by
 refine zbv (defP ok W [] (Vs := []) rfl rfl rfl rfl rfl rfl ?_ rfl ?_)
 ·intro vs ws B r1 r2 le
  apply r2.e0
  apply r1.e0
  exact ⟨[], Looks.of_peek W.k rfl, .nil⟩
 ·intro F' ok tp W hF
  exact zaa (sRet (zeo (zaj eStr (zaj eStr (zaj eStr eNil)))) q)
theorem zlh (i : Int) : ∃ k, (seqIndex? (i % 4) (Str.ofString "ABCD").length).bind ((Str.ofString "ABCD").cps[·]?) = some k ∧ PyData.strOk ⟨#[k]⟩ = true ∧ (⟨#[k]⟩ : Str) ∈ abcd := by
 have h3 : i % 4 = 0 ∨ i % 4 = 1 ∨ i % 4 = 2 ∨ i % 4 = 3 := by
  have h0 := Int.emod_nonneg i (b := 4) (by decide)
  have h1 := Int.emod_lt_of_pos i (b := 4) (by decide)
  generalize i % 4 = z at h0 h1
  obtain ⟨k, rfl⟩ := Int.eq_ofNat_of_zero_le h0
  match k, Int.ofNat_lt.mp h1 with
  | 0, _ => exact .inl rfl
  | 1, _ => exact .inr (.inl rfl)
  | 2, _ => exact .inr (.inr (.inl rfl))
  | 3, _ => exact .inr (.inr (.inr rfl))
 rcases h3 with h | h | h | h <;> rw [h]
 ·exact ⟨65, by decide +kernel, by decide +kernel, by decide +kernel⟩
 ·exact ⟨66, by decide +kernel, by decide +kernel, by decide +kernel⟩
 ·exact ⟨67, by decide +kernel, by decide +kernel, by decide +kernel⟩
 ·exact ⟨68, by decide +kernel, by decide +kernel, by decide +kernel⟩
noncomputable def hd (i : Int) : Str := ⟨#[Classical.choose (zlh i)]⟩
theorem zta (i : Int) : hd i ∈ abcd := (Classical.choose_spec (zlh i)).2.2
theorem zvg (ok : Ok F n) {e : Expr} {k k2 : Nat} {p1 p3 p4 p5 : Pos} {i : Int} {Q : V -> Loc -> Hp -> Prop} (he : WE F e loc H fun X l1 H1 => X = .int i ∧ Q (.str (hd i)) l1 H1) :
  WE F (.Subscript (.Constant (.str (Str.ofString "ABCD")) k p1) (.BinOp e .Mod (.Constant (.int 4) k2 p3) p4) p5) loc H Q := by
 have h1 : 0 ≤ i % 4 := Int.emod_nonneg _ (by decide)
 have h2 : i % 4 < 4 := Int.emod_lt_of_pos _ (by decide)
 obtain ⟨h3, h4, _⟩ := Classical.choose_spec (zlh i)
 exact zat (zdw (zcr (he.mono fun X l1 H1 ⟨e, q⟩ => e ▸ zbu (zel (by decide) (zn3 (by lia) (by lia) h3 h4 q)))))
theorem eHd (ok : Ok F n) {e : Expr} {k k2 : Nat} {p1 p3 p4 p5 : Pos} {i : Int} (he : Ev F e loc H (.int i)) :
  Ev F (.Subscript (.Constant (.str (Str.ofString "ABCD")) k p1) (.BinOp e .Mod (.Constant (.int 4) k2 p3) p4) p5) loc H (.str (hd i)) := fun J q => zvg ok (he ⟨rfl, q⟩)
theorem zhe (y : Int) (m : Nat) (hm : 0 < m) : ∃ sz : Nat, y % (m : Int) = (sz : Int) ∧ sz < m := by
 have h0 := Int.emod_nonneg y (b := (m : Int)) (by lia)
 have h1 := Int.emod_lt_of_pos y (b := (m : Int)) (by lia)
 exact ⟨(y % (m : Int)).toNat, by lia, by lia⟩
noncomputable abbrev Ru := Str × List Str × Str
noncomputable def ru3 (r : Ru) : V := .tup [.str r.1, .list (r.2.1.map .str), .str r.2.2]
structure R2Is (words : List Str) (rules : List Ru) : Prop where
 r0 : 0 < rules.length
 rl : rules.length ≤ 7
 hd : ∀ r ∈ rules, r.1 ∈ abcd
 bl : ∀ r ∈ rules, r.2.1.length ≤ 3
 sg : ∀ r ∈ rules, ∀ s ∈ r.2.1, s ∈ zaz
 wd : ∀ r ∈ rules, r.2.2 = Str.ofString "" ∨ r.2.2 ∈ words
 nd : (rules.map fun r => (r.1, r.2.1)).Nodup
noncomputable def fM (h : Str) (b : List Str) : V -> Option V
 | .tup [.str h', .list b', _] => if h' = h ∧ b'.map unS = b then some (.int 1) else none
 | _ => none
theorem ztb (h : Str) (b : List Str) (r : Ru) : fM h b (ru3 r) = if r.1 = h ∧ r.2.1 = b then some (.int 1) else none := by
 show (if r.1 = h ∧ (r.2.1.map V.str).map unS = b then _ else _) = _
 rw [ziy]
theorem ztc {h : Str} {b : List Str} {rules : List Ru} (hn : (h, b) ∉ rules.map fun r => (r.1, r.2.1)) : (rules.map ru3).filterMap (fM h b) = [] := by
 rw [List.filterMap_map, List.filterMap_eq_nil_iff]
 intro r hr
 show fM h b (ru3 r) = none
 rw [ztb, if_neg]
 rintro ⟨rfl, rfl⟩
 exact hn (List.mem_map.mpr ⟨r, hr, rfl⟩)
theorem ztd {h : Str} {b : List Str} {rules : List Ru} (hn : (h, b) ∈ rules.map fun r => (r.1, r.2.1)) : (rules.map ru3).filterMap (fM h b) ≠ [] := by
 obtain ⟨r, hr, e⟩ := List.mem_map.mp hn
 injection e with e1 e2
 refine List.ne_nil_of_mem (a := V.int 1) (List.mem_filterMap.mpr ⟨_, List.mem_map.mpr ⟨r, hr, rfl⟩, ?_⟩)
 rw [ztb, if_pos ⟨e1, e2⟩]
theorem zuk (h : Str) (b : List Str) (rules : List Ru) : ((rules.map ru3).filterMap (fM h b)).length ≤ rules.length := Nat.le_trans (List.length_filterMap_le _ _) (by rw [List.length_map]; exact Nat.le_refl _)
inductive Rl1 (H : Hp) (ws : List Str) (a2 : Addr) (Hx : (Addr -> Option (List V)) -> Option V -> Option V -> Hp) (L0 : Option V -> Option V -> Option V -> Option V -> Loc) (l : Loc) (H' : Hp) : Prop
 | mk (rules : List Ru) (a4 : Option V) (a5 : Option V) (a7 : Option V) (a8 : Option V) (o1 : Option V) (o2 : Option V) (_ : R2Is ws rules) (_ : l = L0 a4 a5 a7 a8) (_ : Hx (up H.L a2 (rules.map ru3)) o1 o2 = H') : Rl1 H ws a2 Hx L0 l H'
inductive Rl2 (H : Hp) (ws : List Str) (a2 : Addr) (Hx : (Addr -> Option (List V)) -> Option V -> Option V -> Hp) (L0 : Option V -> Option V -> Option V -> Option V -> Loc) (i : Nat) (l : Loc) (H' : Hp) : Prop
 | mk (rules : List Ru) (a4 : Option V) (a5 : Option V) (a7 : Option V) (a8 : Option V) (o1 : Option V) (o2 : Option V) (_ : (rules.length ≤ i ∧ (i ≠ 0 -> 0 < rules.length) ∧ (∀ r ∈ rules, r.1 ∈ abcd ∧ r.2.1.length ≤ 3 ∧ (∀ s ∈ r.2.1, s ∈ zaz) ∧ (r.2.2 = Str.ofString "" ∨ r.2.2 ∈ ws)) ∧ (rules.map fun r => (r.1, r.2.1)).Nodup)) (_ : l = L0 a4 a5 a7 a8) (_ : Hx (up H.L a2 (rules.map ru3)) o1 o2 = H') : Rl2 H ws a2 Hx L0 i l H'
inductive Rl3 (H : Hp) (a2 : Addr) (Hx : (Addr -> Option (List V)) -> Option V -> Option V -> Hp) (L0 : Option V -> Option V -> Option V -> Option V -> Loc) (rules : List Ru) (a8 : Option V) (x : Int) (a6 : Addr) (sz : Nat) (l : Loc) (H' : Hp) : Prop
 | mk (body : List Str) (z : Int) (a7 : Option V) (_ : body.length ≤ 3) (_ : (∀ s ∈ body, s ∈ zaz)) (_ : l = L0 (some (.int z)) (some (.int sz)) a7 a8) (_ : Hx (up (up H.L a2 (rules.map ru3)) a6 (body.map .str)) (some (.int x)) (some (.ref a6)) = H') : Rl3 H a2 Hx L0 rules a8 x a6 sz l H'
inductive Rl4 (H : Hp) (a2 : Addr) (Hx : (Addr -> Option (List V)) -> Option V -> Option V -> Hp) (L0 : Option V -> Option V -> Option V -> Option V -> Loc) (rules : List Ru) (a8 : Option V) (x : Int) (a6 : Addr) (sz : Nat) (j : Nat) (l : Loc) (H' : Hp) : Prop
 | mk (body : List Str) (z : Int) (a7 : Option V) (_ : body.length = j) (_ : (∀ s ∈ body, s ∈ zaz)) (_ : l = L0 (some (.int z)) (some (.int sz)) a7 a8) (_ : Hx (up (up H.L a2 (rules.map ru3)) a6 (body.map .str)) (some (.int x)) (some (.ref a6)) = H') : Rl4 H a2 Hx L0 rules a8 x a6 sz j l H'
inductive Rl5 (H : Hp) (ws : List Str) (a2 : Addr) (Hx : (Addr -> Option (List V)) -> Option V -> Option V -> Hp) (L0 : Option V -> Option V -> Option V -> Option V -> Loc) (rules : List Ru) (x : Int) (a6 : Addr) (sz : Nat) (body : List Str) (z : Int) (a7 : Option V) (l : Loc) (H' : Hp) : Prop
 | mk (wd : Str) (_ : (wd = Str.ofString "" ∨ wd ∈ ws)) (_ : l = L0 (some (.int z)) (some (.int sz)) a7 (some (.str wd))) (_ : Hx (up (up H.L a2 (rules.map ru3)) a6 (body.map .str)) (some (.int x)) (some (.ref a6)) = H') : Rl5 H ws a2 Hx L0 rules x a6 sz body z a7 l H'
theorem zte (ok : Ok F (n + 4)) (W : Wd (K P) F.c.base) {SV WV : V} {ns : List Int} {ws : List Str} {Q : V -> Loc -> Hp -> Prop} (eS : asL H SV = some (ns.map .int)) (hz : ns.length ≤ 1000) (eW : asL H WV = some (ws.map .str)) (hw : ws.length ≤ 10)
  (q : ∀ rules, R2Is ws rules -> Q (.list (rules.map ru3)) loc H) : Call F (.ref 267) [SV, WV] loc H Q := by
 refine zbv (defC ok W ["script", "words"] (Vs := [SV, WV]) rfl rfl rfl rfl rfl ?_ rfl ?_)
 ·intro vs ws B r1 r2 le
  apply r2.e0
  apply r1.e2
  intro _ _ x y
  exact ⟨[_, _], Looks.of_peek W.k rfl, .cons x (.cons y .nil)⟩
 ·intro F' L ok tp W hF hf
  have hf2 : H.Fresh (L + 1 + 1) := hf "body" (L + 1 + 1) (by with_unfolding_all exact .head _)
  have hf1 : H.Fresh (L + 1) := hf "number" (L + 1) (by with_unfolding_all exact .tail _ (.head _))
  have n12 : L + 1 ≠ L + 1 + 1 := Nat.ne_of_lt (Nat.lt_succ_self _)
  show WSs F' _ _ ((H.aC (L + 1) none).aC (L + 1 + 1) none) _
  refine zaa (sAsg ok hF rfl (za9 (zaf ⟨by simp, fun a2 ha2' => ?_⟩)))
  have ha2 : H.Fresh a2 := (frC (frC ha2').2).2
  let Hx : (Addr -> Option (List V)) -> Option V -> Option V -> Hp := fun L1 o1 o2 => { H with L := L1, C := up (up H.C (L + 1) o1) (L + 1 + 1) o2 }
  let L0 (a4 a5 a7 a8 : Option V) : Loc := [some SV, some WV, some (.ref a2), none, a4, a5, none, a7, a8, none, none, none]
  refine za0 (Rl1 H ws a2 Hx L0) (fun Q1 b1 => zbn (zcj (WE.mono (Q := fun X l1 H1 => ∃ ms : List Int, ms ≠ [] ∧ ms.length ≤ 7 ∧ X = .list (ms.map .int) ∧ l1 = L0 none none none none ∧ H1 = Hx (up H.L a2 []) none none) (zgj (ze4 (gLoc ok hF rfl rfl (zii (zeg eS fun b xs h => (zak (ha2.neL h)).trans h) (za1 hz) ⟨fun h => ?_, fun h => ?_⟩)))) ?_))) ?_
  ·refine zjp (gLoc ok hF rfl rfl (zjn (zjo (zbu ⟨7, rfl, _, zeg eS fun b xs h => (zak (ha2.neL h)).trans h, za1 hz, by simp, by simp, ns.take 7, ?_, List.length_take_le 7 ns, ?_, rfl, rfl⟩))))
   ·have h : ns ≠ [] := by rintro rfl; simp at h
    intro e
    rw [List.take_eq_nil_iff] at e
    rcases e with e | e
    ·cases e
    ·exact h e
   ·have : cut (ns.map V.int) none (some 7) = (ns.take 7).map .int := by simp [cut]
    rw [this]
  ·exact zdp (zag (zbu (zaf ⟨by simp, [0], by simp, by simp, rfl, rfl, rfl⟩)))
  ·rintro X l H' ⟨ms, hms, hml, rfl, rfl, rfl⟩
   have eW1 : ∀ {L1 : Addr -> Option (List V)} {o1 o2}, (∀ b xs, H.L b = some xs -> L1 b = some xs) -> asL (Hx L1 o1 o2) WV = some (ws.map .str) := fun h => zeg eW h
   refine ⟨_, rfl, ?_⟩
   refine za3 (fun i => zau i) ms.length (Rl2 H ws a2 Hx L0) ⟨[], none, none, none, none, none, none, ⟨Nat.le_refl _, fun h => absurd rfl h, (fun J h => nomatch h), List.nodup_nil⟩, rfl, rfl⟩ ?_ ?_
   ·rintro i Q2 b2 l H' hi ⟨rules, a4, a5, a7, a8, o1, o2, ⟨rl, rp, rk, rn⟩, rfl, rfl⟩
    have hi' : i < ms.length := hi
    have ok1 := ok.inl
    generalize hx : ms[i] = x
    refine ⟨.int x, zbh rfl (by simp [hi', hx]), zfv ok1 hF rfl rfl (by show up (up H.C (L + 1) o1) (L + 1 + 1) o2 (L + 1) = some o1; rw [zak n12, zac]) ?_⟩
    have eT : (((Hx (up H.L a2 (rules.map ru3)) o1 o2).aC (L + 1) (some (.int x))) : Hp) = Hx (up H.L a2 (rules.map ru3)) (some (.int x)) o2 := by
     show ({ H with L := _, C := up (up (up H.C _ _) _ _) _ _ } : Hp) = _
     rw [zra n12]
    rw [eT]
    have cN : ∀ {L1 o2}, (Hx L1 (some (.int x)) o2).C (L + 1) = some (some (.int x)) := (zak n12).trans (zac _ _ _)
    refine zaa (sA ok1 hF rfl (eBin (zam ok1 hF rfl rfl cN) eInt fun J q => zfp (by decide) (by decide) q) ?_)
    refine zaa (sA ok1 hF rfl (eBin (eLoc ok1 hF rfl rfl) eInt fun J q => zel (by decide) q) ?_)
    refine zaa (sA ok1 hF rfl (eBin (eLoc ok1 hF rfl rfl) eInt fun J q => zfp (by decide) (by decide) q) ?_)
    refine zaa (zho ok1 hF rfl rfl (za9 (zaf ⟨by simp, fun a6 ha6 => ⟨⟨o2, zac _ _ _⟩, ?_⟩⟩)))
    have h6 : a6 ≠ a2 ∧ H.Fresh a6 := let z := frL (frC (frC ha6).2).2; z
    obtain ⟨sz, hsz, hsz3⟩ := zhe (x / 4) 4 (by decide)
    rw [show (x / 4) % ((4 : Nat) : Int) = (x / 4) % 4 from rfl] at hsz
    rw [hsz]
    have eB : ((((Hx (up H.L a2 (rules.map ru3)) (some (.int x)) o2).aL a6 []).aC (L + 1 + 1) (some (.ref a6))) : Hp) = Hx (up (up H.L a2 (rules.map ru3)) a6 []) (some (.int x)) (some (.ref a6)) := by
     show ({ H with L := _, C := up (up (up H.C _ _) _ _) _ _ } : Hp) = _
     rw [zd3]
    refine zb8 (H' := Hx (up (up H.L a2 (rules.map ru3)) a6 []) (some (.int x)) (some (.ref a6))) ?_ (zap.refl _) (by rw [← eB]; exact Hp.Sub.refl _)
    have cB : ∀ {L1 o1 o2}, (Hx L1 o1 o2).C (L + 1 + 1) = some o2 := zac _ _ _
    refine za0 (Rl3 H a2 Hx L0 rules a8 x a6 sz) (fun Q3 b3 => zbn (zd1 (gBi ok1 W hF rfl rfl (by boot_by_name) (by decide) ⟨rfl, zag (gLoc ok1 hF rfl rfl (zaf ⟨sz, rfl, Nat.lt_of_lt_of_le hsz3 (by decide), ?_⟩))⟩))) ?_
    ·refine za3 (fun i => zce i) sz (Rl4 H a2 Hx L0 rules a8 x a6 sz) ⟨[], _, a7, rfl, (fun J h => nomatch h), rfl, rfl⟩ ?_ ?_
     ·rintro j Q4 b4 l H' hj ⟨body, z, a7, hbl, hbs, rfl, rfl⟩
      have ok2 := ok1.inl
      have hg : (Hx (up (up H.L a2 (rules.map ru3)) a6 (body.map .str)) (some (.int x)) (some (.ref a6))).L a6 = some (body.map .str) := zac _ _ _
      obtain ⟨k8, hk8, hk8'⟩ := zhe z 8 (by decide)
      have hat : (zaz.map V.str)[k8]? = some (.str zaz[k8]) := by rw [List.getElem?_map, List.getElem?_eq_getElem hk8']; rfl
      have hsm : zaz[k8] ∈ zaz := List.getElem_mem _
      generalize zaz[k8] = sg at hat hsm
      refine ⟨_, zew hj, tLoc ok2 hF rfl ?_⟩
      have hk8 : z % 8 = (k8 : Int) := hk8
      refine zaa (sApp ok2 (zam ok2 hF rfl rfl cB) hg (eSub (zlc (zff ok2 W hF rfl rfl (.ref 248)) eNil (zc9 ok2 W) fun J q => zs7 (n := n + 2) ok2 W q) (eBin (eLoc ok2 hF rfl rfl) eInt fun J q => zel (by decide) q) fun J q => zb4 rfl (by rw [hk8]; exact Int.natCast_nonneg k8) (by rw [hk8]; exact Int.ofNat_lt.mpr (Nat.lt_of_lt_of_le hk8' (by decide))) (by rw [hk8]; exact hat) q) (za1 (Nat.le_of_eq hbl) (by lia)) ?_)
      refine zaa (sA ok2 hF rfl (eBin (eLoc ok2 hF rfl rfl) eInt fun J q => zfp (by decide) (by decide) q) (zab (b4.n ⟨body ++ [sg], _, _, by simp [hbl], ?_, rfl, ?_⟩)))
      ·intro s hs
       rcases List.mem_append.mp hs with hs | hs
       ·exact hbs s hs
       ·rw [List.mem_singleton] at hs; subst hs; exact hsm
      ·show Hx _ _ _ = Hx (up (up (up H.L a2 (rules.map ru3)) a6 (body.map V.str)) a6 (body.map V.str ++ [V.str sg])) _ _
       rw [zd3, List.map_append]; rfl
     ·rintro l H' ⟨body, z, a7, hbl, hbs, rfl, rfl⟩
      exact ⟨zb0 (ok1.handled (Nat.succ_ne_zero _)) (Nat.le_refl _), zab (b3.n ⟨body, _, _, by lia, hbs, rfl, rfl⟩)⟩
    rintro l H' ⟨body, z, a7, hbl, hbs, rfl, rfl⟩
    have hL6 : ∀ b xs, H.L b = some xs -> up (up H.L a2 (rules.map ru3)) a6 (body.map .str) b = some xs := fun b xs h => (zak (h6.2.neL h)).trans ((zak (ha2.neL h)).trans h)
    have zw : (ws.map V.str).length ≤ 1000000 := za1 hw
    have ew := eW1 (o1 := some (.int x)) (o2 := some (.ref a6)) hL6
    obtain ⟨k3, hk3, hk3'⟩ := zhe z 3 (by decide)
    have hk3 : z % 3 = (k3 : Int) := hk3
    -- the word behind
    refine za0 (Rl5 H ws a2 Hx L0 rules x a6 sz body z a7) (fun Q3 b3 => sAsg ok1 hF rfl (zgj (zk5 (zbu (zcr (gLoc ok1 hF rfl rfl (zbu (zel (by decide) (zq8 ⟨fun h1 => zav (gBi ok1 W hF rfl rfl (by boot_by_name) (by decide) (zag (gLoc ok1 hF rfl rfl (zaf ⟨zcq ok1, zgl ew zw (ztp ⟨fun h2 => ?_, fun h2 => ?_⟩)⟩)))), fun h1 => ?_⟩))))))))) ?_
    ·have h1 := of_decide_eq_true h1
     have h2 := of_decide_eq_true h2
     rw [hk3] at h1 h2
     rw [List.length_map] at h2
     have hlt : k3 - 1 < ws.length := by lia
     refine zat (gLoc ok1 hF rfl rfl (zcr (zcr (gLoc ok1 hF rfl rfl (zbu (zel (by decide) (zbu (zq7 (zb4 ew (by rw [hk3]; lia) (by rw [hk3]; lia) (x := .str ws[k3 - 1]) (by rw [hk3, show ((k3 : Int) - 1).toNat = k3 - 1 by lia, List.getElem?_map, List.getElem?_eq_getElem hlt]; rfl) ?_)))))))))
     exact b3.n ⟨ws[k3 - 1], .inr (List.getElem_mem _), rfl, rfl⟩
    ·exact zdw (b3.n ⟨_, .inl rfl, rfl, rfl⟩)
    ·exact ⟨(fun h => absurd h Bool.false_ne_true), fun J => zdw (b3.n ⟨_, .inl rfl, rfl, rfl⟩)⟩
    rintro l H' ⟨wd, hwd, rfl, rfl⟩
    -- the signs are frozen
    refine zqe (ca := L + 1 + 1) (a := a6) cB (zac _ _ _) ?_
    have eF : ((((Hx (up (up H.L a2 (rules.map ru3)) a6 (body.map .str)) (some (.int x)) (some (.ref a6))).uL a6).aC (L + 1 + 1) (some (.list (body.map .str)))) : Hp) = Hx (up H.L a2 (rules.map ru3)) (some (.int x)) (some (.list (body.map .str))) := by
     show Hp.mk (un (up (up H.L _ _) _ _) _) _ _ _ _ (up (up (up H.C _ _) _ _) _ _) _ = _
     rw [zd3, zjk ((zak h6.1).trans h6.2.l)]
    rw [eF]
    have hg : (Hx (up H.L a2 (rules.map ru3)) (some (.int x)) (some (.list (body.map .str)))).L a2 = some (rules.map ru3) := zac _ _ _
    have zr : (rules.map ru3).length ≤ 1000 := by rw [List.length_map]; lia
    refine zaa (sIf (b := decide ((hd x, body) ∉ rules.map fun r => (r.1, r.2.1))) ((bCmp (eLen ok1 W hF rfl rfl (zot ok1 [("number", L + 1), ("body", L + 1 + 1)] (f := fM (hd x) body) (eLoc ok1 hF rfl rfl) (by exact hg) (Nat.le_trans zr (by decide)) (fun C sv E okc j y hy => ?_) (zds hF rfl) (zcf ok1 rfl)) rfl rfl (Nat.le_trans (zuk _ _ _) (by lia))) eInt kEqi).cast ?_) (fun hb => ?_) (fun hb => zab (zab (b2.n ⟨rules, _, _, _, _, _, _, ⟨Nat.le_succ_of_le rl, fun J => ?_, rk, rn⟩, rfl, rfl⟩))))
    ·rw [List.getElem?_map] at hy
     obtain ⟨r, hr, rfl⟩ := Option.map_eq_some_iff.mp hy
     refine zld (fun J q => zbg okc rfl (tLoc okc (zai ok1 hF) rfl (tLoc okc (zai ok1 hF) rfl (tLoc okc (zai ok1 hF) rfl q)))) (bAnd (bCmp (eLoc okc (zai ok1 hF) rfl rfl) (eHd okc (zam okc (zai ok1 hF) rfl rfl cN)) kEqs) fun J => bCmp (eLoc okc (zai ok1 hF) rfl rfl) (zam okc (zai ok1 hF) rfl rfl cB) (zvc okc)) (fun J => eInt) ?_
     rw [ztb]
     simp only [Bool.and_eq_true, decide_eq_true_eq]
    ·rw [decide_eq_decide, Int.natCast_eq_zero, List.length_eq_zero_iff]
     exact ⟨fun h z => ztd z h, ztc⟩
    ·have hnew := of_decide_eq_true hb
     refine zaa (sApp ok1 (eLoc ok1 hF rfl rfl) hg (X := ru3 (hd x, body, wd)) (eTup (zaj (eHd ok1 (zam ok1 hF rfl rfl cN)) (zaj (zam ok1 hF rfl rfl cB) (zaj (eLoc ok1 hF rfl rfl) eNil)))) (Nat.le_trans zr (by decide)) (zab (zab (b2.n ⟨rules ++ [(hd x, body, wd)], _, _, _, _, some (.int x), some (.list (body.map .str)), ⟨by rw [List.length_append]; exact Nat.succ_le_succ rl, fun J => by rw [List.length_append]; exact Nat.succ_pos _, ?_, ?_⟩, rfl, ?_⟩))))
     ·intro r hr
      rcases List.mem_append.mp hr with hr | hr
      ·exact rk r hr
      ·rw [List.mem_singleton] at hr; subst hr; exact ⟨zta x, hbl, hbs, hwd⟩
     ·rw [List.map_append, List.nodup_append]
      exact ⟨rn, by simp, fun a ha b hb' => by simp at hb'; subst hb'; exact fun z => hnew (z ▸ ha)⟩
     ·show Hx _ _ _ = Hx (up (up H.L a2 (rules.map ru3)) a2 (rules.map ru3 ++ [ru3 (hd x, body, wd)])) _ _
      rw [zd3, List.map_append]; rfl
    ·have := of_decide_eq_false hb
     have hm := Classical.not_not.mp this
     obtain ⟨r, hr, _⟩ := List.mem_map.mp hm
     exact List.length_pos_of_mem hr
   ·rintro l H' ⟨rules, a4, a5, a7, a8, o1, o2, ⟨rl, rp, rk, rn⟩, rfl, rfl⟩
    exact ⟨zan (ok.handled (Nat.succ_ne_zero _)) rfl (by simp), zab (b1.n ⟨rules, _, _, _, _, _, _, ⟨rp (by intro h; exact hms (List.eq_nil_of_length_eq_zero h)), Nat.le_trans rl hml, fun r hr => (rk r hr).1, fun r hr => (rk r hr).2.1, fun r hr => (rk r hr).2.2.1, fun r hr => (rk r hr).2.2.2, rn⟩, rfl, rfl⟩)⟩
  rintro l H' ⟨rules, a4, a5, a7, a8, o1, o2, hR, rfl, rfl⟩
  refine zaa (zbc (zin (Q' := fun X l H' => X = .list (rules.map ru3) ∧ H' = Hx H.L o1 o2) (zlx (gLoc ok hF rfl rfl ⟨_, _, Frz.list (zac _ _ _), rfl, ?_⟩)) ?_))
  ·show ({ H with L := un (up H.L a2 _) a2, C := _ } : Hp) = _
   rw [zjk ha2.l]
  ·rintro X l H' ⟨rfl, rfl⟩
   refine ⟨l, H, zap.refl _, ?_, q _ hR⟩
   exact Hp.Sub.trans (H2 := (H.aC (L + 1) o1)) (subC hf1.c) (subC ((zak n12.symm).trans hf2.c))
end
section
variable {P : Params} {F : Fx} {n : Nat} {loc : Loc} {H : Hp}
theorem zbp : ∀ {l m : List Str}, l.Nodup -> (∀ x ∈ l, x ∈ m) -> l.length ≤ m.length
 | [], _, _, _ => Nat.zero_le _
 | a :: l, m, h, k => by
  rw [List.nodup_cons] at h
  have h1 := zbp (l := l) (m := m.erase a) h.2 fun x hx => (List.mem_erase_of_ne (fun e => h.1 (by rw [← e]; exact hx))).mpr (k x (.tail _ hx))
  rw [List.length_erase_of_mem (k a (.head _))] at h1
  have := List.length_pos_of_mem (k a (.head _))
  rw [List.length_cons]; lia
noncomputable def nb (b : List Str) : List Str := (List.range b.length).filterMap fun k => if b[k]! ∈ b.take k then none else some b[k]!
noncomputable def fN (b : List Str) : V -> Option V
 | .int k => if b[k.toNat]! ∈ b.take k.toNat then none else some (.str b[k.toNat]!)
 | _ => none
theorem zvh (b : List Str) : ((List.range b.length).map fun (k : Nat) => V.int k).filterMap (fN b) = (nb b).map .str := by
 unfold nb
 induction List.range b.length with
 | nil => rfl
 | cons k l ih =>
  have e : fN b (.int (k : Int)) = if b[k]! ∈ b.take k then none else some (V.str b[k]!) := by
   show (if b[((k : Int)).toNat]! ∈ b.take ((k : Int)).toNat then none else some (V.str b[((k : Int)).toNat]!)) = _
   rw [Int.toNat_natCast]
  rw [List.map_cons, List.filterMap_cons, List.filterMap_cons, e]
  by_cases h : b[k]! ∈ b.take k
  ·rw [if_pos h, if_pos h]; exact ih
  ·rw [if_neg h, if_neg h]; exact congrArg (V.str b[k]! :: ·) ih
theorem zrh {b : List Str} {s : Str} (h : s ∈ nb b) : s ∈ b := by
 unfold nb at h
 obtain ⟨k, hk, e⟩ := List.mem_filterMap.mp h
 have hk := List.mem_range.mp hk
 split at e
 ·cases e
 ·cases e
  rw [getElem!_pos b k hk]; exact List.getElem_mem _
theorem zul {b : List Str} {s : Str} (h : s ∈ b) : s ∈ nb b := by
 have key : ∀ (k : Nat) (hk : k < b.length), b[k] ∈ nb b := by
  intro k
  induction k using Nat.strongRecOn with
  | _ k ih =>
   intro hk
   by_cases hm : b[k] ∈ b.take k
   ·obtain ⟨j, hj, e⟩ := List.getElem_of_mem hm
    rw [List.length_take] at hj
    rw [List.getElem_take] at e
    rw [← e]; exact ih j (by lia) (by lia)
   ·unfold nb
    refine List.mem_filterMap.mpr ⟨k, List.mem_range.mpr hk, ?_⟩
    rw [getElem!_pos b k hk, if_neg hm]
 obtain ⟨k, hk, e⟩ := List.getElem_of_mem h
 rw [← e]; exact key k hk
theorem zqo (b : List Str) : (nb b).Nodup := by
 have key : ∀ m, m ≤ b.length -> ((List.range m).filterMap fun k => if b[k]! ∈ b.take k then none else some b[k]!).Nodup ∧ ∀ s ∈ ((List.range m).filterMap fun k => if b[k]! ∈ b.take k then none else some b[k]!), s ∈ b.take m := by
  intro m
  induction m with
  | zero => intro _; exact ⟨List.nodup_nil, fun J h => nomatch h⟩
  | succ m ih =>
   intro hm
   obtain ⟨h1, h2⟩ := ih (Nat.le_of_succ_le hm)
   have hlt : m < b.length := hm
   have ht : b.take (m + 1) = b.take m ++ [b[m]] := zao hlt
   rw [List.range_succ, List.filterMap_append, ht]
   have e1 : (List.filterMap (fun k => if b[k]! ∈ b.take k then none else some b[k]!) [m]) = if b[m] ∈ b.take m then [] else [b[m]] := by
    rw [List.filterMap_cons, List.filterMap_nil, getElem!_pos b m hlt]
    split
    ·rename_i h; split at h
     ·rename_i h'; rw [if_pos h']
     ·cases h
    ·rename_i h; split at h
     ·cases h
     ·rename_i h'; rw [if_neg h']; cases h; rfl
   rw [e1]
   split
   ·rw [List.append_nil]
    exact ⟨h1, fun s hs => List.mem_append_left _ (h2 s hs)⟩
   ·rename_i hn
    refine ⟨?_, fun s hs => ?_⟩
    ·rw [List.nodup_append]
     exact ⟨h1, by simp, fun a ha c hc => by rw [List.mem_singleton] at hc; subst hc; exact fun z => hn (z ▸ h2 a ha)⟩
    ·rcases List.mem_append.mp hs with hs | hs
     ·exact List.mem_append_left _ (h2 s hs)
     ·exact List.mem_append_right _ hs
 exact (key b.length (Nat.le_refl _)).1
inductive Rr (rules : List Ru) (start : Str) : Str -> Prop
 | base : Rr rules start start
 | step {r s} : r ∈ rules -> Rr rules start r.1 -> s ∈ r.2.1 -> Rr rules start s
structure Ln (rules : List Ru) (start : Str) (line : List Str) : Prop where
 nd : line.Nodup
 sub : ∀ s ∈ line, s ∈ zaz
 st : start ∈ line
 snd : ∀ s ∈ line, Rr rules start s
noncomputable def Cl (rules : List Ru) (x : Str) (line : List Str) : Prop := ∀ r ∈ rules, r.1 = x -> ∀ s ∈ r.2.1, s ∈ line
theorem Ln.len {rules : List Ru} {start : Str} {line : List Str} (h : Ln rules start line) : line.length ≤ 8 := zbp (m := zaz) h.nd h.sub
theorem Ln.add {rules : List Ru} {start : Str} {line : List Str} (h : Ln rules start line) {r : Ru} (hr : r ∈ rules) (hx : r.1 ∈ line) (hb : ∀ s ∈ r.2.1, s ∈ zaz) : Ln rules start (line ++ (nb r.2.1).filter fun s => decide (s ∉ line)) where
 nd := by
  rw [List.nodup_append]
  refine ⟨h.nd, (zqo _).sublist List.filter_sublist, fun a ha b hb' z => ?_⟩
  have := (List.mem_filter.mp hb').2
  subst z
  exact of_decide_eq_true this ha
 sub := fun s hs => by
  rcases List.mem_append.mp hs with hs | hs
  ·exact h.sub s hs
  ·exact hb s (zrh (List.mem_filter.mp hs).1)
 st := List.mem_append_left _ h.st
 snd := fun s hs => by
  rcases List.mem_append.mp hs with hs | hs
  ·exact h.snd s hs
  ·exact .step hr (h.snd _ hx) (zrh (List.mem_filter.mp hs).1)
theorem Ln.fin {rules : List Ru} {start : Str} {line : List Str} (h : Ln rules start line) (hc : ∀ q, q < line.length -> Cl rules line[q]! line) (s : Str) : s ∈ line ↔ Rr rules start s := by
 refine ⟨h.snd s, fun k => ?_⟩
 induction k with
 | base => exact h.st
 | @step r s hr _ hs ih =>
  obtain ⟨q, hq, e⟩ := List.getElem_of_mem ih
  have := hc q hq
  rw [getElem!_pos line q hq, e] at this
  exact this r hr rfl s hs
inductive Rc1 (rules : List Ru) (start : Str) (Hx : Option V -> Option V -> Hp) (L0 : Option V -> Option V -> Option V -> Loc) (l : Loc) (H' : Hp) : Prop
 | mk (line : List Str) (a3 : Option V) (a4 : Option V) (a6 : Option V) (o2 : Option V) (_ : (Ln rules start line ∧ ∀ q, q < line.length -> Cl rules line[q]! line)) (_ : l = L0 a3 a4 a6) (_ : Hx (some (.list (line.map .str))) o2 = H') : Rc1 rules start Hx L0 l H'
inductive Rc2 (rules : List Ru) (start : Str) (Hx : Option V -> Option V -> Hp) (L0 : Option V -> Option V -> Option V -> Loc) (k : Nat) (l : Loc) (H' : Hp) : Prop
 | mk (line : List Str) (p : Nat) (a4 : Option V) (a6 : Option V) (o2 : Option V) (_ : (Ln rules start line ∧ p ≤ line.length ∧ k + p = 8 ∧ ∀ q, q < p -> Cl rules line[q]! line)) (_ : l = L0 (some (.int p)) a4 a6) (_ : Hx (some (.list (line.map .str))) o2 = H') : Rc2 rules start Hx L0 k l H'
inductive Rc3 (rules : List Ru) (start : Str) (Hx : Option V -> Option V -> Hp) (L0 : Option V -> Option V -> Option V -> Loc) (line : List Str) (p : Nat) (x : Str) (l : Loc) (H' : Hp) : Prop
 | mk (line' : List Str) (a4 : Option V) (a6 : Option V) (o2 : Option V) (_ : (Ln rules start line' ∧ line <+: line' ∧ Cl rules x line')) (_ : l = L0 (some (.int p)) a4 a6) (_ : Hx (some (.list (line'.map .str))) o2 = H') : Rc3 rules start Hx L0 line p x l H'
inductive Rc4 (rules : List Ru) (start : Str) (Hx : Option V -> Option V -> Hp) (L0 : Option V -> Option V -> Option V -> Loc) (line : List Str) (p : Nat) (x : Str) (i : Nat) (l : Loc) (H' : Hp) : Prop
 | mk (line' : List Str) (a4 : Option V) (a6 : Option V) (o2 : Option V) (_ : (Ln rules start line' ∧ line <+: line' ∧ Cl (rules.take i) x line')) (_ : l = L0 (some (.int p)) a4 a6) (_ : Hx (some (.list (line'.map .str))) o2 = H') : Rc4 rules start Hx L0 line p x i l H'
theorem zqp (ok : Ok F (n + 4)) (W : Wd (K P) F.c.base) {rules : List Ru} {start : Str} {Q : V -> Loc -> Hp -> Prop} (hz : rules.length ≤ 100) (hb : ∀ r ∈ rules, r.2.1.length ≤ 100 ∧ ∀ s ∈ r.2.1, s ∈ zaz) (hs : start ∈ zaz)
  (q : ∀ line : List Str, (∀ s, s ∈ line ↔ Rr rules start s) -> line.length ≤ 8 -> Q (.list (line.map .str)) loc H) : Call F (.ref 272) [.list (rules.map ru3), .str start] loc H Q := by
 refine zbv (defC ok W ["rules", "start"] (Vs := [.list (rules.map ru3), .str start]) rfl rfl rfl rfl rfl ?_ rfl ?_)
 ·intro vs ws B r1 r2 le
  apply r2.e0
  apply r1.e2
  intro _ _ x y
  exact ⟨[_, _], Looks.of_peek W.k rfl, .cons x (.cons y .nil)⟩
 ·intro F' L ok tp W hF hf
  have hf2 : H.Fresh (L + 1 + 1) := hf "body" (L + 1 + 1) (by with_unfolding_all exact .head _)
  have hf1 : H.Fresh (L + 1) := hf "line" (L + 1) (by with_unfolding_all exact .tail _ (.head _))
  have n12 : L + 1 ≠ L + 1 + 1 := Nat.ne_of_lt (Nat.lt_succ_self _)
  let Hx : Option V -> Option V -> Hp := fun o1 o2 => ((H.aC (L + 1) o1).aC (L + 1 + 1) o2)
  have cB : ∀ {o1 o2}, (Hx o1 o2).C (L + 1 + 1) = some o2 := zac _ _ _
  have cL : ∀ {o1 o2}, (Hx o1 o2).C (L + 1) = some o1 := (zak n12).trans (zac _ _ _)
  have eL : ∀ {o1 o2 o3}, (((Hx o1 o2).aC (L + 1) o3) : Hp) = Hx o3 o2 := by
   intro o1 o2 o3
   show Hp.mk _ _ _ _ _ (up (up (up _ _ _) _ _) _ _) _ = _
   rw [zra n12]
  have eB : ∀ {o1 o2 o3}, (((Hx o1 o2).aC (L + 1 + 1) o3) : Hp) = Hx o1 o3 := by
   intro o1 o2 o3
   show ((((H.aC _ _).aC _ _).aC _ _) : Hp) = _
   rw [aaC]
  show WSs F' _ _ (Hx none none) _
  let L0 (a3 a4 a6 : Option V) : Loc := [some (.list (rules.map ru3)), some (.str start), none, a3, a4, none, a6, none, none]
  refine zaa (zho ok hF rfl rfl (zdp (zag (gLoc ok hF rfl rfl (zaf ⟨by simp, ⟨⟨none, cL⟩, ?_⟩⟩)))))
  rw [eL]
  refine zaa (sA ok hF rfl eInt ?_)
  refine za0 (Rc1 rules start Hx L0) (fun Q1 b1 => zjz (Rc2 rules start Hx L0) 8 ⟨[start], 0, none, none, none, ⟨⟨by simp, fun s h => by rw [List.mem_singleton] at h; subst h; exact hs, .head _, fun s h => by rw [List.mem_singleton] at h; subst h; exact .base⟩, Nat.zero_le _, rfl, fun q h => absurd h (Nat.not_lt_zero _)⟩, rfl, rfl⟩ ?_) ?_
  ·rintro k Q2 b2 l H' ⟨line, p, a4, a6, o2, ⟨hl, hp, hk, hc⟩, rfl, rfl⟩
   have ok1 := ok.inl
   have h8 := hl.len
   refine zay (gLoc ok1 hF rfl rfl (zav (gBi ok1 W hF rfl rfl (by boot_by_name) (by decide) (zag (zk2 ok1 hF rfl rfl cL (zaf ⟨zcq ok1, zgl rfl (za1 h8) (zq8 ⟨fun h => ?_, fun h => zab (b1.n ⟨line, _, _, _, _, ⟨hl, fun q hq => hc q ?_⟩, rfl, rfl⟩)⟩)⟩))))))
   ·have hp' : p < line.length := by
     have := of_decide_eq_true h
     rw [List.length_map] at this; lia
    generalize hx : line[p] = x
    have hxp : line[p]? = some x := by rw [List.getElem?_eq_getElem hp', hx]
    have hxm : x ∈ line := hx ▸ List.getElem_mem _
    refine za0 (Rc3 rules start Hx L0 line p x) (fun Q3 b3 => zbn (zcj (gLoc ok1 hF rfl rfl ⟨_, rfl, ?_⟩))) ?_
    ·refine za3 (fun i => zau i) rules.length (Rc4 rules start Hx L0 line p x) ⟨line, _, _, _, ⟨hl, List.prefix_refl _, (fun r hr => by rw [List.take_zero] at hr; cases hr)⟩, rfl, rfl⟩ ?_ ?_
     ·rintro i Q4 b4 l H' hi ⟨line', a4, a6, o2, ⟨hl', hpre, hc'⟩, rfl, rfl⟩
      have ok2 := ok1.inl
      have hre : rules[i] ∈ rules := List.getElem_mem _
      have htk : rules.take (i + 1) = rules.take i ++ [rules[i]] := zao hi
      have hxj : (rules.map ru3)[i]? = some (ru3 rules[i]) := by rw [List.getElem?_map, List.getElem?_eq_getElem hi]; rfl
      obtain ⟨hb1, hb2⟩ := hb _ hre
      generalize rules[i] = r at hre htk hxj hb1 hb2
      have hxp' : line'[p]? = some x := by
       obtain ⟨t, rfl⟩ := hpre
       rw [List.getElem?_append_left hp']; exact hxp
      have hx' : (line'.map V.str)[((p : Int)).toNat]? = some (.str x) := by rw [Int.toNat_natCast, List.getElem?_map, hxp']; rfl
      have hm' : x ∈ line' := List.mem_of_getElem? hxp'
      have h8' := hl'.len
      have hp8 : p < 1000000 := Nat.lt_of_lt_of_le hp' (Nat.le_trans h8 (by decide))
      refine ⟨.tup [.str r.1, .list (r.2.1.map .str), .str r.2.2], zbh rfl hxj, zbg ok2 rfl (tLoc ok2 hF rfl (zfv ok2 hF rfl rfl cB (tLoc ok2 hF rfl ?_)))⟩
      rw [eB]
      refine zaa (sIf (b := decide (r.1 = x)) (bCmp (eLoc ok2 hF rfl rfl) (eSub (zam ok2 hF rfl rfl cL) (eLoc ok2 hF rfl rfl) fun J q => zb4 rfl (Int.natCast_nonneg p) (Int.ofNat_lt.mpr hp8) hx' q) kEqs) (fun hb => ?_) (fun hb => zab (zab (b4.n ⟨line', some (.str r.1), some (.str r.2.2), some (.list (r.2.1.map .str)), ⟨hl', hpre, fun r' hr' he => ?_⟩, rfl, rfl⟩))))
      ·have e1 := of_decide_eq_true hb
       have zl : ((line' ++ (nb r.2.1).filter fun s => decide (s ∉ line')).map V.str).length ≤ 1000000 := by
        rw [List.length_map]
        have := (hl'.add hre (e1 ▸ hm') hb2).len
        exact Nat.le_trans this (by decide)
       have znb : (nb r.2.1).length ≤ 100 := Nat.le_trans (Nat.le_trans (List.length_filterMap_le _ _) (by rw [List.length_range]; exact Nat.le_refl _)) hb1
       refine zaa (sAC ok2 hF rfl rfl cL (znd (zam ok2 hF rfl rfl cL) (eFlt ok2 hF [("line", L + 1)] ((zuc ok2 W hF [("body", L + 1 + 1)] rfl rfl (f := fN r.2.1) (eLen ok2 W hF rfl rfl (zam ok2 hF rfl rfl cB) rfl (List.length_map _) (Nat.le_trans hb1 (by decide))) (Nat.le_trans hb1 (by decide)) (fun C sv E okc j hj' => ?_) (zds hF rfl) (zcf ok2 rfl)).cast (congrArg V.list (zvh _))) rfl (Nat.le_trans znb (by decide)) rfl rfl (fun J => rfl) rfl cL rfl (zds hF rfl) rfl) rfl rfl (by rw [List.map_append, List.length_append] at zl; exact zl)) ?_)
       ·have hj8 : j < 1000000 := Nat.lt_of_lt_of_le hj' (Nat.le_trans hb1 (by decide))
        have hat : (r.2.1.map V.str)[((j : Int)).toNat]? = some (.str r.2.1[j]) := by rw [Int.toNat_natCast, List.getElem?_map, List.getElem?_eq_getElem hj']; rfl
        refine zld (fun J q => tLoc okc (zai ok2 hF) rfl q) (bCmp (eSub (zam okc (zai ok2 hF) rfl rfl cB) (eLoc okc (zai ok2 hF) rfl rfl) fun J q => zb4 rfl (Int.natCast_nonneg j) (Int.ofNat_lt.mpr hj8) hat q) (eCut (zam okc (zai ok2 hF) rfl rfl cB) (eLoc okc (zai ok2 hF) rfl rfl) rfl (za1 hb1)) (zge okc (congrArg some (List.map_take ..).symm))) (fun J => eSub (zam okc (zai ok2 hF) rfl rfl cB) (eLoc okc (zai ok2 hF) rfl rfl) fun J q => zb4 rfl (Int.natCast_nonneg j) (Int.ofNat_lt.mpr hj8) hat q) ?_
        show (if r.2.1[((j : Int)).toNat]! ∈ r.2.1.take ((j : Int)).toNat then none else some (V.str r.2.1[((j : Int)).toNat]!)) = _
        rw [Int.toNat_natCast, getElem!_pos r.2.1 j hj']
        by_cases hin : r.2.1[j] ∈ r.2.1.take j
        ·rw [if_pos hin, if_neg (by simpa using hin)]
        ·rw [if_neg hin, if_pos (by simpa using hin)]
       ·rw [eL]
        refine zab (zab (b4.n ⟨line' ++ (nb r.2.1).filter fun s => decide (s ∉ line'), some (.str r.1), some (.str r.2.2), some (.list (r.2.1.map .str)), ⟨hl'.add hre (e1 ▸ hm') hb2, hpre.trans (List.prefix_append _ _), fun r' hr' he s hs' => ?_⟩, rfl, ?_⟩))
        ·rw [htk] at hr'
         rcases List.mem_append.mp hr' with z | z
         ·exact List.mem_append_left _ (hc' r' z he s hs')
         ·rw [List.mem_singleton] at z; subst z
          by_cases hin : s ∈ line'
          ·exact List.mem_append_left _ hin
          ·exact List.mem_append_right _ (List.mem_filter.mpr ⟨zul hs', decide_eq_true hin⟩)
        ·rw [List.map_append]
      ·rw [htk] at hr'
       rcases List.mem_append.mp hr' with z | z
       ·exact hc' r' z he
       ·rw [List.mem_singleton] at z; subst z
        exact absurd he (of_decide_eq_false hb)
     ·rintro l H' ⟨line', a4, a6, o2, ⟨hl', hpre, hc'⟩, rfl, rfl⟩
      rw [List.take_length] at hc'
      exact ⟨zan (ok1.handled (Nat.succ_ne_zero _)) rfl (by simp), zab (b3.n ⟨line', _, _, _, ⟨hl', hpre, hc'⟩, rfl, rfl⟩)⟩
    rintro l H' ⟨line', a4, a6, o2, ⟨hl', hpre, hc'⟩, rfl, rfl⟩
    refine zaa (sAug ok1 hF rfl rfl (zbu (zrp ?_)))
    refine zab (b2.n ⟨8 - (p + 1), by lia, line', p + 1, _, _, _, ⟨hl', ?_, by lia, fun q hq => ?_⟩, rfl, rfl⟩)
    ·obtain ⟨t, rfl⟩ := hpre
     rw [List.length_append]; lia
    ·obtain ⟨t, rfl⟩ := hpre
     by_cases z : q = p
     ·subst z
      rw [getElem!_pos _ q (by rw [List.length_append]; lia), List.getElem_append_left hp', hx]; exact hc'
     ·have hq' : q < p := by lia
      have := hc q hq'
      rw [getElem!_pos _ q (by lia)] at this
      rw [getElem!_pos _ q (by rw [List.length_append]; lia), List.getElem_append_left (by lia)]
      exact fun r hr he s hs => List.mem_append_left _ (this r hr he s hs)
   ·have := of_decide_eq_false h
    rw [List.length_map] at this
    lia
  rintro l H' ⟨line, a3, a4, a6, o2, ⟨hl, hc⟩, rfl, rfl⟩
  refine zaa (zbc (zin (Q' := fun X l H' => X = .list (line.map .str) ∧ H' = Hx (some (.list (line.map .str))) o2) (zk2 ok hF rfl rfl cL ⟨rfl, rfl⟩) ?_))
  rintro X l H' ⟨rfl, rfl⟩
  refine ⟨l, H, zap.refl _, ?_, q line (hl.fin hc) hl.len⟩
  exact Hp.Sub.trans (H2 := (H.aC (L + 1) (some (.list (line.map .str))))) (subC hf1.c) (subC ((zak n12.symm).trans hf2.c))
end
section
variable {P : Params} {F : Fx} {n : Nat} {loc : Loc} {H : Hp}
noncomputable abbrev toks : List Str := ["x", "y", "z"]
noncomputable abbrev T4 : List Str := ["x", "y", "z", "error"]
theorem zfg (W : Wd (K P) F.c.base) : RelV (fun a => F.c.base.get? a) (.ref 241) (.list (toks.map .str)) :=
 zpz W (items := #[Value.str (Str.ofString "x") 541, Value.str (Str.ofString "y") 542, Value.str (Str.ofString "z") 543]) (n := 0) rfl (.cons (.str _ _ (zar _)) (.cons (.str _ _ (zar _)) (.cons (.str _ _ (zar _)) .nil)))
noncomputable def zpk (rules : List Ru) (heads g : List Str) : List Str := T4 ++ heads.filter fun h => decide (∃ r ∈ rules, r.1 = h ∧ ∀ s ∈ r.2.1, s ∈ g)
noncomputable def zdv (rules : List Ru) (heads : List Str) : Nat -> List Str
 | 0 => T4
 | i + 1 => zpk rules heads (zdv rules heads i)
noncomputable def fE (p : Str -> List Str -> Bool) : V -> Option V
 | .tup [.str h, .list b, _] => if p h (b.map unS) then some (.list b) else none
 | _ => none
theorem zum (p : Str -> List Str -> Bool) (r : Ru) : fE p (ru3 r) = if p r.1 r.2.1 then some (.list (r.2.1.map .str)) else none := by
 show (if p r.1 ((r.2.1.map V.str).map unS) then _ else _) = _
 rw [ziy]
theorem zri (p : Str -> List Str -> Bool) : ∀ rules : List Ru, ((rules.map ru3).filterMap (fE p)).length = (rules.filter fun r => p r.1 r.2.1).length
 | [] => rfl
 | r :: rs => by
  have ih := zri p rs
  rw [List.map_cons, List.filterMap_cons, zum, List.filter_cons]
  by_cases h : p r.1 r.2.1 = true
  ·rw [if_pos h, if_pos h]; exact congrArg (· + 1) ih
  ·rw [if_neg h, if_neg h]; exact ih
theorem eT4 {F : Fx} {loc : Loc} {H : Hp} {e : Expr} {k : Nat} {p1 p2 p3 : Pos} (hg : Ev F e loc H (.list (toks.map .str))) : Ev F (.BinOp e .Add (.List [.Constant (.str (Str.ofString "error")) k p1] p2) p3) loc H (.list (T4.map .str)) :=
 znd hg (zeo (zaj eStr eNil)) rfl rfl (by simp)
inductive Le1 (rules : List Ru) (heads : List Str) (Hx : Option V -> Hp) (i : Nat) (l : Loc) (H' : Hp) : Prop
 | mk (a3 : Option V) (_ : l = [none, some (.list (heads.map .str)), none, a3, none, none, none]) (_ : Hx (some (.list ((zdv rules heads i).map .str))) = H') : Le1 rules heads Hx i l H'
theorem ztf (ok : Ok F (n + 4)) (W : Wd (K P) F.c.base) {rules : List Ru} {heads : List Str} {Q : V -> Loc -> Hp -> Prop} (hz : rules.length ≤ 100) (hh : heads.length ≤ 100) (hb : ∀ r ∈ rules, r.2.1.length ≤ 100)
  (q : Q (.list ((zdv rules heads heads.length).map .str)) loc H) : Call F (.ref 277) [.list (rules.map ru3), .list (heads.map .str)] loc H Q := by
 refine zbv (defC ok W ["rules", "heads"] (Vs := [.list (rules.map ru3), .list (heads.map .str)]) rfl rfl rfl rfl rfl ?_ rfl ?_)
 ·intro vs ws B r1 r2 le
  apply r2.e0
  apply r1.e2
  intro _ _ x y
  exact ⟨[_, _], Looks.of_peek W.k rfl, .cons x (.cons y .nil)⟩
 ·intro F' L ok tp W hF hf
  have hf2 : H.Fresh (L + 1 + 1) := hf "ends" (L + 1 + 1) (by with_unfolding_all exact .head _)
  have hf1 : H.Fresh (L + 1) := hf "rules" (L + 1) (by with_unfolding_all exact .tail _ (.head _))
  let Hx : Option V -> Hp := fun ov => ((H.aC (L + 1) (some (.list (rules.map ru3)))).aC (L + 1 + 1) ov)
  have hne : L + 1 ≠ L + 1 + 1 := Nat.ne_of_lt (Nat.lt_succ_self _)
  have eR : ∀ ov, (Hx ov).C (L + 1) = some (some (.list (rules.map ru3))) := fun ov => (zak hne).trans (zac _ _ _)
  have eG : ∀ ov, (Hx ov).C (L + 1 + 1) = some ov := fun ov => zac _ _ _
  have eX : ∀ ov ov', (((Hx ov).aC (L + 1 + 1) ov') : Hp) = Hx ov' := fun ov ov' => by show Hp.mk _ _ _ _ _ (up (up _ _ _) _ _) _ = _; rw [zd3]
  show WSs F' _ _ (Hx none) _
  refine zaa (sAC ok hF rfl rfl (eG _) (eT4 (zff ok W hF rfl rfl (zfg W))) ?_)
  rw [eX]
  refine zaa (zsn ok W hF rfl rfl (eLen ok W hF rfl rfl (eLoc ok hF rfl rfl) rfl (List.length_map _) (by lia)) (by lia) ?_)
  refine za3 (fun i => zce i) heads.length (Le1 rules heads Hx) ⟨none, rfl, rfl⟩ ?_ ?_
  ·rintro i Q4 b4 l H' hi ⟨a3, rfl, rfl⟩
   refine ⟨_, zew hi, tLoc ok.inl hF rfl ?_⟩
   have hlen : T4.length + (heads.filter fun h => decide (∃ r ∈ rules, r.1 = h ∧ ∀ s ∈ r.2.1, s ∈ zdv rules heads i)).length ≤ 1000000 := by
    have := List.length_filter_le (fun h => decide (∃ r ∈ rules, r.1 = h ∧ ∀ s ∈ r.2.1, s ∈ zdv rules heads i)) heads
    have e4 : T4.length = 4 := rfl
    lia
   have hfin : Q4 .next [none, some (.list (heads.map .str)), none, some (.int (i : Int)), none, none, none] (Hx (some (.list ((zdv rules heads (i + 1)).map .str)))) := b4.n ⟨_, rfl, rfl⟩
   generalize hg : zdv rules heads i = g at hlen
   rw [show zdv rules heads (i + 1) = zpk rules heads g by rw [← hg]; rfl] at hfin
   unfold zpk at hfin
   let p1 : Str -> Bool := fun h => decide (∃ r ∈ rules, r.1 = h ∧ ∀ s ∈ r.2.1, s ∈ g)
   refine zaa (sAC ok.inl hF rfl rfl (eG _) (znd (eT4 (zff ok.inl W hF rfl rfl (zfg W))) (zt6 ok.inl "head" [("rules", L + 1), ("ends", L + 1 + 1)] (f := flt p1) (eLoc ok.inl hF rfl rfl) (fun J J => rfl) (by rw [List.length_map]; lia) (fun C sv E hfC okc j x ov hx => ?_) (zds hF rfl) rfl (zcf ok.inl rfl) rfl) rfl (congrArg some (zfy p1 heads)) (by rw [List.length_map, List.length_map]; exact hlen)) ?_)
   ·obtain ⟨h, _, rfl⟩ := zgd hx
    have cR : ((Hx (some (.list (g.map .str)))).cel (C + 1) (some (.str h))).C (L + 1) = some (some (.list (rules.map ru3))) := (zak (hfC.neC (eR _))).trans (eR _)
    have cG : ((Hx (some (.list (g.map .str)))).cel (C + 1) (some (.str h))).C (L + 1 + 1) = some (some (.list (g.map .str))) := (zak (hfC.neC (eG _))).trans (eG _)
    have cH : ((Hx (some (.list (g.map .str)))).cel (C + 1) (some (.str h))).C (C + 1) = some (some (.str h)) := zac _ _ _
    have hl := zri (fun nm b => decide (nm = h ∧ ∀ s ∈ b, s ∈ g)) rules
    have hl2 := List.length_filter_le (fun r : Ru => decide (r.1 = h ∧ ∀ s ∈ r.2.1, s ∈ g)) rules
    refine zvb okc (zai ok.inl hF) rfl rfl (bCmp (eLen okc W (zai ok.inl hF) rfl rfl (zot okc [("head", C + 1), ("ends", L + 1 + 1)] (f := fE fun nm b => decide (nm = h ∧ ∀ s ∈ b, s ∈ g)) (zam okc (zai ok.inl hF) rfl rfl cR) rfl (by rw [List.length_map]; lia) (fun C2 sv2 E2 okc2 k x hx => ?_) (zds (zai ok.inl hF) rfl) (zcf okc rfl)) rfl hl (by lia)) eInt kGt) (fun J => zam okc (zai ok.inl hF) rfl rfl cH) ?_
    ·obtain ⟨r, hrm, rfl⟩ := zgd hx
     refine zld (fun J q => zbg okc2 rfl (tLoc okc2 (zai okc (zai ok.inl hF)) rfl (tLoc okc2 (zai okc (zai ok.inl hF)) rfl (tLoc okc2 (zai okc (zai ok.inl hF)) rfl q)))) (bAnd (bCmp (eLoc okc2 (zai okc (zai ok.inl hF)) rfl rfl) (zam okc2 (zai okc (zai ok.inl hF)) rfl rfl cH) kEqs) (fun J => bCmp (eLen okc2 W (zai okc (zai ok.inl hF)) rfl rfl (eFlt okc2 (zai okc (zai ok.inl hF)) [("ends", L + 1 + 1)] (eLoc okc2 (zai okc (zai ok.inl hF)) rfl rfl) rfl (Nat.le_trans (hb r hrm) (by decide)) rfl rfl (fun J => rfl) rfl cG rfl (zds (zai okc (zai ok.inl hF)) rfl) rfl) rfl (List.length_map _) (Nat.le_trans (List.length_filter_le _ _) (Nat.le_trans (hb r hrm) (by decide)))) eInt kEqi)) (fun J => eLoc okc2 (zai okc (zai ok.inl hF)) rfl rfl) ?_
     rw [zum]
     refine congrArg (fun b : Bool => if b then some (V.list (r.2.1.map .str)) else none) ?_
     rw [Bool.eq_iff_iff, Bool.and_eq_true, decide_eq_true_iff, decide_eq_true_iff, decide_eq_true_iff, Int.natCast_eq_zero, List.length_eq_zero_iff, List.filter_eq_nil_iff]
     refine and_congr_right fun J => forall_congr' fun s => forall_congr' fun J => ?_
     rw [decide_eq_true_iff, Classical.not_not]
    ·refine congrArg (fun b : Bool => if b then some (V.str h) else none) ?_
     rw [Bool.eq_iff_iff, decide_eq_true_iff, decide_eq_true_iff, gt_iff_lt, Int.natCast_pos, List.length_pos_iff_exists_mem]
     refine exists_congr fun r => ?_
     rw [List.mem_filter, decide_eq_true_iff]
   ·rw [eX, ← List.map_append]
    exact zab hfin
  ·rintro l H' ⟨a3, rfl, rfl⟩
   refine ⟨zb0 (ok.handled (Nat.succ_ne_zero _)) (Nat.le_refl _), zab ?_⟩
   refine zaa (zbc (zin (Q' := fun X l H' => X = .list ((zdv rules heads heads.length).map .str) ∧ H' = Hx (some (.list ((zdv rules heads heads.length).map .str)))) (goE (zam ok hF rfl rfl (eG _)) ⟨rfl, rfl⟩) ?_))
   rintro X l H' ⟨rfl, rfl⟩
   exact ⟨_, H, zap.refl _, (subC hf1.c).trans (subC ((zak hne.symm).trans hf2.c)), q⟩
end
noncomputable def mget (m : List (Str × List V)) (k : Str) : Option (List V) := (m.find? fun p => p.1 = k).map (·.2)
theorem zfh (t : Tab) (k : Str) : mget (tcon t) k = (tget t k).map (·.2) := by
 unfold mget tget tcon
 rw [List.find?_map, Option.map_map, Option.map_map]
 rfl
theorem zhf (m : List (Str × List V)) (k n : Str) (v : V) : mget (zbd m k v) n = if n = k then (mget m k).map (· ++ [v]) else mget m n := by
 unfold mget zbd
 induction m with
 | nil => simp
 | cons p r ih =>
  obtain ⟨a, xs⟩ := p
  rw [List.map_cons, List.find?_cons, List.find?_cons, List.find?_cons]
  by_cases h1 : a = k
  ·subst h1
   by_cases h2 : n = a
   ·subst h2; simp
   ·have h2' : ¬ a = n := fun e => h2 e.symm
    simp only [if_true, h2', decide_false]
    rw [ih, if_neg h2, if_neg h2]
  ·have e1 : (if (a, xs).1 = k then ((a, xs).1, (a, xs).2 ++ [v]) else (a, xs)) = (a, xs) := if_neg h1
   rw [e1]
   by_cases h2 : n = k
   ·subst h2
    have hd : decide ((a, xs).1 = n) = false := decide_eq_false h1
    rw [hd, if_pos rfl]
    rw [if_pos rfl] at ih
    exact ih
   ·rw [if_neg h2] at ih ⊢
    by_cases h3 : a = n
    ·have hd : decide ((a, xs).1 = n) = true := decide_eq_true h3
     rw [hd]
    ·have hd : decide ((a, xs).1 = n) = false := decide_eq_false h3
     rw [hd]
     exact ih
theorem ze2 (m : List (Str × List V)) (k n : Str) : mget (za2 m k) n = if n = k then some ((mget m k).getD []) else mget m n := by
 unfold za2
 split
 ·rename_i h
  by_cases e : n = k
  ·subst e
   rw [if_pos rfl]
   cases h2 : mget m n with
   | some _ => rfl
   | none =>
    unfold mget at h2
    simp only [Option.map_eq_none_iff, List.find?_eq_none, decide_eq_true_eq] at h2
    obtain ⟨p, hp, e⟩ := List.mem_map.mp h
    exact absurd e (h2 p hp)
  ·rw [if_neg e]
 ·rename_i h
  have h0 : mget m k = none := by
   unfold mget
   simp only [Option.map_eq_none_iff, List.find?_eq_none, decide_eq_true_eq]
   exact fun p hp e => h (List.mem_map.mpr ⟨p, hp, e⟩)
  by_cases e : n = k
  ·subst e
   rw [if_pos rfl, h0]
   unfold mget at h0 ⊢
   simp only [Option.map_eq_none_iff] at h0
   rw [List.find?_append, h0]
   simp
  ·rw [if_neg e]
   unfold mget
   rw [List.find?_append]
   have e' : ¬ k = n := fun z => e z.symm
   cases m.find? (fun p => decide (p.1 = n)) <;> simp [e']
theorem zej (m : List (Str × List V)) (k s : Str) : s ∈ (za2 m k).map (·.1) ↔ s ∈ m.map (·.1) ∨ s = k := by
 unfold za2
 split
 ·rename_i h
  exact ⟨.inl, fun z => z.elim id fun z => z ▸ h⟩
 ·simp
theorem zhg (v : V) : ∀ (l : List Str) (T N : List (Str × List V)), (za8 v (T, N) l).1.map (·.1) = T.map (·.1)
 | [], T, N => rfl
 | s :: r, T, N => by
  unfold za8
  split
  ·rw [zhg v r, zci]
  ·rw [zhg v r]
theorem zhh (v : V) (x : Str) : ∀ (l : List Str) (T N : List (Str × List V)), x ∈ (za8 v (T, N) l).2.map (·.1) ↔ x ∈ N.map (·.1) ∨ (x ∈ l ∧ x ∉ T.map (·.1))
 | [], T, N => by simp [za8]
 | s :: r, T, N => by
  unfold za8
  split
  ·rename_i h
   rw [zhh v x r, zci]
   constructor
   ·rintro (z | ⟨z1, z2⟩)
    ·exact .inl z
    ·exact .inr ⟨.tail _ z1, z2⟩
   ·rintro (z | ⟨z1, z2⟩)
    ·exact .inl z
    ·rcases List.mem_cons.mp z1 with rfl | z1
     ·exact absurd h z2
     ·exact .inr ⟨z1, z2⟩
  ·rename_i h
   rw [zhh v x r, zci, zej]
   constructor
   ·rintro ((z | rfl) | ⟨z1, z2⟩)
    ·exact .inl z
    ·exact .inr ⟨.head _, h⟩
    ·exact .inr ⟨.tail _ z1, z2⟩
   ·rintro (z | ⟨z1, z2⟩)
    ·exact .inl (.inl z)
    ·rcases List.mem_cons.mp z1 with rfl | z1
     ·exact .inl (.inr rfl)
     ·exact .inr ⟨z1, z2⟩
theorem zf0 {m : List (Str × List V)} {k : Str} {v : V} {c : Nat} (h : ∀ p ∈ m, p.2.length ≤ c) : ∀ p ∈ zbd m k v, p.2.length ≤ c + 1 := fun p hp => by
 unfold zbd at hp
 obtain ⟨q, hq, rfl⟩ := List.mem_map.mp hp
 have := h q hq
 split
 ·simp; lia
 ·lia
theorem zf1 {m : List (Str × List V)} {k : Str} {c : Nat} (h : ∀ p ∈ m, p.2.length ≤ c) : ∀ p ∈ za2 m k, p.2.length ≤ c := fun p hp => by
 unfold za2 at hp
 split at hp
 ·exact h p hp
 ·rcases List.mem_append.mp hp with hp | hp
  ·exact h p hp
  ·simp at hp; subst hp; simp
theorem zf2 (v : V) : ∀ (l : List Str) (T N : List (Str × List V)) (c : Nat), (∀ p ∈ T, p.2.length ≤ c) -> (∀ p ∈ N, p.2.length ≤ c) -> (∀ p ∈ (za8 v (T, N) l).1, p.2.length ≤ c + l.length) ∧ ∀ p ∈ (za8 v (T, N) l).2, p.2.length ≤ c + l.length
 | [], T, N, c, h1, h2 => ⟨h1, h2⟩
 | s :: r, T, N, c, h1, h2 => by
  have e : c + (s :: r).length = (c + 1) + r.length := by simp; lia
  rw [e]
  unfold za8
  split
  ·exact zf2 v r _ _ (c + 1) (zf0 h1) fun p hp => Nat.le_succ_of_le (h2 p hp)
  ·exact zf2 v r _ _ (c + 1) (fun p hp => Nat.le_succ_of_le (h1 p hp)) (zf0 (zf1 h2))
theorem zdg {m : List (Str × List V)} {k : Str} : (mget m k).isSome = true ↔ k ∈ m.map (·.1) := by
 unfold mget
 rw [Option.isSome_map, List.find?_isSome, List.mem_map]
 constructor
 ·rintro ⟨p, hp, e⟩; exact ⟨p, hp, of_decide_eq_true e⟩
 ·rintro ⟨p, hp, e⟩; exact ⟨p, hp, decide_eq_true e⟩
theorem zo2 {m : List (Str × List V)} {k : Str} (h : k ∉ m.map (·.1)) : mget m k = none := by
 cases e : mget m k with
 | none => rfl
 | some xs => exact absurd (zdg.mp (by rw [e]; rfl)) h
theorem useT {v : V} {s : Str} : ∀ (l : List Str) (T N : List (Str × List V)) (xs' : List V), mget (za8 v (T, N) l).1 s = some xs' -> ∃ xs, mget T s = some xs ∧ (xs' = [] ↔ xs = [] ∧ s ∉ l)
 | [], T, N, xs', h => ⟨xs', h, by simp⟩
 | a :: l, T, N, xs', h => by
  unfold za8 at h
  split at h
  ·obtain ⟨xs, h1, h2⟩ := useT l _ _ _ h
   rw [zhf] at h1
   by_cases e : s = a
   ·subst e
    rw [if_pos rfl] at h1
    obtain ⟨ys, h3, h4⟩ := Option.map_eq_some_iff.mp h1
    refine ⟨ys, h3, ?_⟩
    rw [h2, ← h4]
    simp
   ·rw [if_neg e] at h1
    refine ⟨xs, h1, ?_⟩
    rw [h2]
    simp [e]
  ·rename_i hT
   obtain ⟨xs, h1, h2⟩ := useT l _ _ _ h
   refine ⟨xs, h1, ?_⟩
   have e : s ≠ a := fun e => by
    rw [e, zo2 hT] at h1; cases h1
   rw [h2]; simp [e]
theorem useN {v : V} {s : Str} : ∀ (l : List Str) (T N : List (Str × List V)) (xs' : List V), s ∉ T.map (·.1) -> mget (za8 v (T, N) l).2 s = some xs' -> (xs' = [] ↔ (mget N s).getD [] = [] ∧ s ∉ l)
 | [], T, N, xs', hs, h => by
  have h : mget N s = some xs' := h
  rw [h]; simp
 | a :: l, T, N, xs', hs, h => by
  unfold za8 at h
  split at h
  ·rename_i hT
   have e : s ≠ a := fun e => hs (e ▸ hT)
   have := useN l _ _ _ (by rw [zci]; exact hs) h
   rw [this]; simp [e]
  ·have := useN l _ _ _ hs h
   rw [this, zhf]
   by_cases e : s = a
   ·subst e
    rw [if_pos rfl, ze2, if_pos rfl]; simp
   ·rw [if_neg e, ze2, if_neg e]; simp [e]
noncomputable abbrev Pd := List (Ru × List (Str × V))
noncomputable def rsE (p : Ru × List (Str × V)) : List (Str × V) × List Str := (p.2, p.1.2.1)
noncomputable def rus (pd : Pd) : List Ru := pd.map (·.1)
noncomputable def ofHd (pd : Pd) (n : Str) : Pd := pd.filter fun p => decide (p.1.1 = n)
noncomputable def addG (gs : Gs) (h : Str) (r : List (Str × V) × List Str) : Gs := (if h ∈ gs.map (·.1) then gs else gs ++ [(h, [])]).map fun e => if e.1 = h then (e.1, e.2 ++ [r]) else e
noncomputable def gsV (gs : Gs) : List (Str × List V) := gs.map fun e => (e.1, psV e.2)
theorem zcu (gs : Gs) : (gsV gs).map (·.1) = gs.map (·.1) := by unfold gsV; rw [List.map_map]; rfl
theorem zi7 (gs : Gs) (h : Str) (r : List (Str × V) × List Str) : gsV (addG gs h r) = zbd (za2 (gsV gs) h) h (.inst 68 r.1) := by
 have key : ∀ gs : Gs, gsV (gs.map fun e => if e.1 = h then (e.1, e.2 ++ [r]) else e) = zbd (gsV gs) h (.inst 68 r.1) := fun gs => by
  unfold gsV zbd
  rw [List.map_map, List.map_map]
  refine List.map_congr_left fun e J => ?_
  show ((if e.1 = h then (e.1, e.2 ++ [r]) else e).1, psV (if e.1 = h then (e.1, e.2 ++ [r]) else e).2) = (if e.1 = h then (e.1, psV e.2 ++ [V.inst 68 r.1]) else (e.1, psV e.2))
  split
  ·simp [psV]
  ·rfl
 unfold addG za2
 rw [zcu]
 split
 ·exact key gs
 ·rw [key]
  show zbd (gsV (gs ++ [(h, [])])) h _ = _
  unfold gsV
  rw [List.map_append]; rfl
theorem zo3 (gs : Gs) (h : Str) (r : List (Str × V) × List Str) (n : Str) : rsOf (addG gs h r) n = if n = h then rsOf gs h ++ [r] else rsOf gs n := by
 have key : ∀ gs : Gs, rsOf (gs.map fun e => if e.1 = h then (e.1, e.2 ++ [r]) else e) n = if n = h ∧ h ∈ gs.map (·.1) then rsOf gs h ++ [r] else rsOf gs n := fun gs => by
  unfold rsOf
  induction gs with
  | nil => simp
  | cons e gs ih =>
   obtain ⟨a, xs⟩ := e
   rw [List.map_cons, List.find?_cons, List.find?_cons, List.find?_cons]
   by_cases h1 : a = h
   ·subst h1
    by_cases h2 : n = a
    ·subst h2; simp
    ·have h2' : ¬ a = n := fun e => h2 e.symm
     simp only [if_true, h2', decide_false]
     rw [ih]; simp [h2]
   ·have e1 : (if (a, xs).1 = h then ((a, xs).1, (a, xs).2 ++ [r]) else (a, xs)) = (a, xs) := if_neg h1
    rw [e1]
    by_cases h2 : a = n
    ·subst h2
     have hd : decide ((a, xs).1 = a) = true := decide_eq_true rfl
     rw [hd, if_neg (fun z => h1 z.1)]
    ·have hd : decide ((a, xs).1 = n) = false := decide_eq_false h2
     have hd2 : decide ((a, xs).1 = h) = false := decide_eq_false h1
     rw [hd, hd2]
     dsimp only
     rw [ih]
     have : (n = h ∧ h ∈ ((a, xs) :: gs).map (·.1)) ↔ (n = h ∧ h ∈ gs.map (·.1)) := by
      rw [List.map_cons, List.mem_cons]
      constructor
      ·rintro ⟨z, z2⟩; exact ⟨z, z2.resolve_left fun z3 => h1 z3.symm⟩
      ·rintro ⟨z, z2⟩; exact ⟨z, .inr z2⟩
     simp only [this]
 have nf : ∀ {gs : Gs} {k : Str}, k ∉ gs.map (·.1) -> rsOf gs k = [] := fun {gs k} hk => by
  unfold rsOf
  have : gs.find? (fun e => decide (e.1 = k)) = none := List.find?_eq_none.mpr fun e he => by simpa using fun z => hk (List.mem_map.mpr ⟨e, he, z⟩)
  rw [this]
 unfold addG
 split
 ·rename_i hm
  rw [key]; simp [hm]
 ·rename_i hm
  rw [key]
  have hin : h ∈ (gs ++ [(h, ([] : Rs))]).map (·.1) := by simp
  have e2 : ∀ k, rsOf (gs ++ [(h, ([] : Rs))]) k = rsOf gs k := fun k => by
   unfold rsOf
   rw [List.find?_append]
   cases e : gs.find? (fun e => decide (e.1 = k)) with
   | some _ => rfl
   | none =>
    by_cases z : h = k
    ·simp [z]
    ·simp [z]
  rw [e2, e2]; simp [hin]
theorem zqq {gs : Gs} {h : Str} {r : List (Str × V) × List Str} {e : Str × Rs} (he : e ∈ addG gs h r) : e.1 = h ∨ ∃ e' ∈ gs, e'.1 = e.1 := by
 unfold addG at he
 obtain ⟨e', h1, h2⟩ := List.mem_map.mp he
 have h3 : e.1 = e'.1 := by rw [← h2]; split <;> rfl
 have h4 : e' ∈ gs ∨ e'.1 = h := by
  split at h1
  ·exact .inl h1
  ·rcases List.mem_append.mp h1 with z | z
   ·exact .inl z
   ·rw [List.mem_singleton] at z; subst z; exact .inr rfl
 rcases h4 with z | z
 ·exact .inr ⟨e', z, h3.symm⟩
 ·exact .inl (h3.trans z)
theorem zqr {gs : Gs} {h : Str} {r : List (Str × V) × List Str} : h ∈ (addG gs h r).map (·.1) := by
 have := congrArg (List.map (·.1)) (zi7 gs h r)
 rw [zcu, zci] at this
 rw [this, zej]; exact .inr rfl
theorem zqs {gs : Gs} {h : Str} {r : List (Str × V) × List Str} {k : Str} (hk : k ∈ gs.map (·.1)) : k ∈ (addG gs h r).map (·.1) := by
 have := congrArg (List.map (·.1)) (zi7 gs h r)
 rw [zcu, zci] at this
 rw [this, zej, zcu]; exact .inl hk
structure Gq (t : GT) (pr : Prs) (pd : Pd) : Prop where
 kT : kys t.tT = T4
 hd : ∀ p ∈ pd, p.1.1 ∉ T4
 N1 : ∀ s, s ∈ kys t.tN ↔ (∃ p ∈ pd, p.1.1 = s) ∨ (s ∉ T4 ∧ ∃ p ∈ pd, s ∈ p.1.2.1)
 uT : ∀ s xs, mget (tcon t.tT) s = some xs -> (xs = [] ↔ ∀ p ∈ pd, s ∉ p.1.2.1)
 uN : ∀ s xs, mget (tcon t.tN) s = some xs -> (xs = [] ↔ ∀ p ∈ pd, s ∉ p.1.2.1)
 ps : t.ps = .none :: psV (pd.map rsE)
 fl : ∀ p ∈ pd, dget p.2 "name" = some (.str p.1.1) ∧ dget p.2 "prod" = some (.tup (p.1.2.1.map .str))
 gs : ∃ gs : Gs, tcon t.tR = gsV gs ∧ (∀ n, rsOf gs n = (ofHd pd n).map rsE) ∧ (∀ e ∈ gs, ∃ p ∈ pd, p.1.1 = e.1) ∧ ∀ p ∈ pd, p.1.1 ∈ gs.map (·.1)
 pm : t.pm = pd.map fun p => (p.1.1, p.1.2.1)
 pr : t.pr = prV pr
 up : ∀ w, w ≠ Str.ofString "" -> (t.ups.1 w = true ↔ ∃ p ∈ pd, p.1.2.2 = w)
 uz : t.ups.2 ≤ pd.length
 lT : ∀ p ∈ tcon t.tT, p.2.length ≤ 20 * pd.length
 lN : ∀ p ∈ tcon t.tN, p.2.length ≤ 20 * pd.length
 lR : ∀ p ∈ tcon t.tR, p.2.length ≤ 20 * pd.length
theorem zcv {t : Tab} {e : Str × Addr × List V} (h : e ∈ t) : (e.1, e.2.2) ∈ tcon t := List.mem_map.mpr ⟨e, h, rfl⟩
theorem Gq.N8 {t : GT} {pr : Prs} {pd : Pd} (G : Gq t pr pd) (h1 : ∀ p ∈ pd, p.1.1 ∈ abcd) (h2 : ∀ p ∈ pd, ∀ s ∈ p.1.2.1, s ∈ zaz) {s : Str} (hs : s ∈ kys t.tN) : s ∈ abcd := by
 rcases (G.N1 s).mp hs with ⟨p, hp, rfl⟩ | ⟨h3, p, hp, h4⟩
 ·exact h1 p hp
 ·have := h2 p hp s h4
  have key : ∀ s ∈ zaz, s ∈ T4 ∨ s ∈ abcd := by decide +kernel
  exact (key s this).resolve_left h3
theorem Gq.sz {H : Hp} {g : GA} {t : GT} {pr : Prs} {pd : Pd} (G : Gq t pr pd) (gr : Gr H g t) (h1 : ∀ p ∈ pd, p.1.1 ∈ abcd) (h2 : ∀ p ∈ pd, ∀ s ∈ p.1.2.1, s ∈ zaz) (hz : pd.length ≤ 7) : Sz 1000 t := by
 have e1 := zbp (m := abcd) gr.kN fun s hs => G.N8 h1 h2 hs
 have e2 := zbp (m := abcd) gr.kR fun s hs => by
  obtain ⟨gs, g1, _, g3, _⟩ := G.gs
  rw [← zal, g1, zcu] at hs
  obtain ⟨e, he, rfl⟩ := List.mem_map.mp hs
  obtain ⟨p, hp, e2⟩ := g3 e he
  exact e2 ▸ h1 p hp
 have e3 : abcd.length = 4 := rfl
 refine ⟨by rw [G.kT]; decide, by lia, by lia, fun e he => ?_, fun e he => ?_, fun e he => ?_, by rw [G.ps]; simp [psV]; lia, by rw [G.pm, List.length_map]; lia⟩
 ·have := G.lT _ (zcv he); dsimp only at this; lia
 ·have := G.lN _ (zcv he); dsimp only at this; lia
 ·have := G.lR _ (zcv he); dsimp only at this; lia
noncomputable def wOpt (w : Str) : Option Str := if w = Str.ofString "" then none else some w
theorem Gq.step {t t' : GT} {pr : Prs} {pd : Pd} {r : Ru} {pf : List (Str × V)} {prec : V} (G : Gq t pr pd) (hh : r.1 ∉ T4) (hl : r.2.1.length ≤ 3) (k2 : zkj (wT t (wOpt r.2.2)) t')
  (hp : PrF pf (t.ps.length : Nat) r.1 r.2.1 prec) (eps' : t'.ps = t.ps ++ [.inst 68 pf]) (epm : t'.pm = t.pm ++ [(r.1, r.2.1)]) (eu : (tcon t'.tT, tcon t'.tN) = za8 (.int (t.ps.length : Nat)) (tcon t.tT, za2 (tcon t.tN) r.1) r.2.1) (er : tcon t'.tR = zbd (za2 (tcon t.tR) r.1) r.1 (.inst 68 pf)) :
  Gq t' pr (pd ++ [(r, pf)]) := by
 have kT : kys t'.tT = kys t.tT := by
  have := congrArg (fun x => x.1.map (·.1)) eu
  dsimp only at this
  rw [zhg, zal, zal] at this; exact this
 have kN : ∀ s, s ∈ kys t'.tN ↔ (s ∈ kys t.tN ∨ s = r.1) ∨ (s ∈ r.2.1 ∧ s ∉ kys t.tT) := fun s => by
  have e : kys t'.tN = (za8 (.int (t.ps.length : Nat)) (tcon t.tT, za2 (tcon t.tN) r.1) r.2.1).2.map (·.1) := by rw [← zal, ← eu]
  rw [e, zhh, zej, zal, zal]
 have eT : tcon t'.tT = (za8 (.int (t.ps.length : Nat)) (tcon t.tT, za2 (tcon t.tN) r.1) r.2.1).1 := congrArg (·.1) eu
 have eN : tcon t'.tN = (za8 (.int (t.ps.length : Nat)) (tcon t.tT, za2 (tcon t.tN) r.1) r.2.1).2 := congrArg (·.2) eu
 have len := zf2 (.int (t.ps.length : Nat)) r.2.1 (tcon t.tT) (za2 (tcon t.tN) r.1) _ G.lT (zf1 G.lN)
 rw [← eu] at len
 have e20 : (pd ++ [(r, pf)]).length = pd.length + 1 := by simp
 have al : ∀ {s : Str}, (∀ p ∈ pd ++ [(r, pf)], s ∉ p.1.2.1) ↔ (∀ p ∈ pd, s ∉ p.1.2.1) ∧ s ∉ r.2.1 := fun {s} => by
  constructor
  ·exact fun h => ⟨fun p hp => h p (List.mem_append_left _ hp), h (r, pf) (by simp)⟩
  ·rintro ⟨h1, h2⟩ p hp
   rcases List.mem_append.mp hp with hp | hp
   ·exact h1 p hp
   ·rw [List.mem_singleton] at hp; subst hp; exact h2
 have ups : t'.ups = (wT t (wOpt r.2.2)).ups := k2.ups
 refine ⟨kT.trans G.kT, fun p hp' => ?_, fun s => ?_, fun s xs h => ?_, fun s xs h => ?_, ?_, fun p hp' => ?_, ?_, by rw [epm, G.pm, List.map_append]; rfl, ?_, fun w hw => ?_, ?_, fun p hp => ?_, fun p hp => ?_, fun p hp => ?_⟩
 ·rcases List.mem_append.mp hp' with hp' | hp'
  ·exact G.hd p hp'
  ·rw [List.mem_singleton] at hp'; subst hp'; exact hh
 ·rw [kN, G.N1, G.kT]
  constructor
  ·rintro (((⟨p, hp, e⟩ | ⟨h1, p, hp, h2⟩) | rfl) | ⟨h1, h2⟩)
   ·exact .inl ⟨p, List.mem_append_left _ hp, e⟩
   ·exact .inr ⟨h1, p, List.mem_append_left _ hp, h2⟩
   ·exact .inl ⟨(r, pf), by simp, rfl⟩
   ·exact .inr ⟨h2, (r, pf), by simp, h1⟩
  ·rintro (⟨p, hp, e⟩ | ⟨h1, p, hp, h2⟩)
   ·rcases List.mem_append.mp hp with hp | hp
    ·exact .inl (.inl (.inl ⟨p, hp, e⟩))
    ·rw [List.mem_singleton] at hp; subst hp; exact .inl (.inr e.symm)
   ·rcases List.mem_append.mp hp with hp | hp
    ·exact .inl (.inl (.inr ⟨h1, p, hp, h2⟩))
    ·rw [List.mem_singleton] at hp; subst hp; exact .inr ⟨h2, h1⟩
 ·rw [eT] at h
  obtain ⟨ys, h1, h2⟩ := useT _ _ _ _ h
  rw [h2, G.uT s ys h1, al]
 ·rw [eN] at h
  have hsT : s ∉ kys t.tT ∨ s ∈ kys t.tT := (Classical.em _).symm
  have hsk : s ∈ kys t'.tN := by
   rw [← zal, eN]; exact zdg.mp (by rw [h]; rfl)
  have hsn : s ∉ kys t.tT := fun z => by
   rcases (kN s).mp hsk with (z1 | rfl) | ⟨_, z1⟩
   ·rw [G.kT] at z
    rcases (G.N1 s).mp z1 with ⟨p, hp, rfl⟩ | ⟨z2, _⟩
    ·exact G.hd p hp z
    ·exact z2 z
   ·exact hh (G.kT ▸ z)
   ·exact z1 z
  rw [useN _ _ _ _ (by rw [zal]; exact hsn) h, ze2, al]
  by_cases e : s = r.1
  ·rw [if_pos e]
   subst e
   cases e2 : mget (tcon t.tN) r.1 with
   | some ys => simp [G.uN _ ys e2]
   | none =>
    simp only [Option.getD_none, Option.getD_some, true_and]
    refine ⟨fun z => ⟨fun p hp hs => ?_, z⟩, fun z => z.2⟩
    have : r.1 ∈ kys t.tN := (G.N1 _).mpr (.inr ⟨hh, p, hp, hs⟩)
    rw [← zal] at this
    have := zdg.mpr this
    rw [e2] at this; cases this
  ·rw [if_neg e]
   cases e2 : mget (tcon t.tN) s with
   | some ys => simp [G.uN _ ys e2]
   | none =>
    simp only [Option.getD_none, true_and]
    refine ⟨fun z => ⟨fun p hp hs => ?_, z⟩, fun z => z.2⟩
    have : s ∈ kys t.tN := (G.N1 _).mpr (.inr ⟨by rw [← G.kT]; exact hsn, p, hp, hs⟩)
    rw [← zal] at this
    have := zdg.mpr this
    rw [e2] at this; cases this
 ·rw [eps', G.ps, List.map_append]
  unfold psV
  rw [List.map_append]; rfl
 ·rcases List.mem_append.mp hp' with hp' | hp'
  ·exact G.fl p hp'
  ·rw [List.mem_singleton] at hp'; subst hp'; exact ⟨hp.1, hp.2.1⟩
 ·obtain ⟨gs, g1, g2, g3, g4⟩ := G.gs
  refine ⟨addG gs r.1 (pf, r.2.1), by rw [zi7, er, g1], fun n => ?_, fun e he => ?_, fun p hp => ?_⟩
  ·rw [zo3]
   unfold ofHd
   rw [List.filter_append, List.map_append]
   by_cases e : n = r.1
   ·subst e
    rw [if_pos rfl, g2]
    simp [ofHd, rsE]
   ·rw [if_neg e, g2]
    have e' : ¬ r.1 = n := fun z => e z.symm
    simp [ofHd, e']
  ·rcases zqq he with z | ⟨e', h1, h2⟩
   ·exact ⟨(r, pf), by simp, z.symm⟩
   ·obtain ⟨p, hp, h3⟩ := g3 e' h1
    exact ⟨p, List.mem_append_left _ hp, h3.trans h2⟩
  ·rcases List.mem_append.mp hp with hp | hp
   ·exact zqs (g4 p hp)
   ·rw [List.mem_singleton] at hp; subst hp; exact zqr
 ·rw [k2.pr]
  have : (wT t (wOpt r.2.2)).pr = t.pr := by cases wOpt r.2.2 <;> rfl
  rw [this]; exact G.pr
 ·rw [ups]
  unfold wOpt
  by_cases e : r.2.2 = Str.ofString ""
  ·rw [if_pos e]
   show t.ups.1 w = true ↔ _
   rw [G.up w hw]
   constructor
   ·rintro ⟨p, hp, h⟩; exact ⟨p, List.mem_append_left _ hp, h⟩
   ·rintro ⟨p, hp, h⟩
    rcases List.mem_append.mp hp with hp | hp
    ·exact ⟨p, hp, h⟩
    ·rw [List.mem_singleton] at hp; subst hp; exact absurd (h.symm.trans e) hw
  ·rw [if_neg e]
   show (t.ups.1 w || decide (w = r.2.2)) = true ↔ _
   rw [Bool.or_eq_true, G.up w hw, decide_eq_true_iff]
   constructor
   ·rintro (⟨p, hp, h⟩ | h)
    ·exact ⟨p, List.mem_append_left _ hp, h⟩
    ·exact ⟨(r, pf), by simp, h.symm⟩
   ·rintro ⟨p, hp, h⟩
    rcases List.mem_append.mp hp with hp | hp
    ·exact .inl ⟨p, hp, h⟩
    ·rw [List.mem_singleton] at hp; subst hp; exact .inr h.symm
 ·rw [ups, e20]
  have h0 := G.uz
  unfold wOpt
  split
  ·show t.ups.2 ≤ _; lia
  ·show (addS t.ups r.2.2).2 ≤ _
   unfold addS
   dsimp only
   split <;> lia
 ·have := len.1 p hp; rw [e20]; lia
 ·have := len.2 p hp; rw [e20]; lia
 ·rw [er] at hp
  have := zf0 (zf1 G.lR) p hp; rw [e20]; lia
section
variable {rules : List Ru} {heads : List Str}
noncomputable def zjd (rules : List Ru) (heads g : List Str) : List Str := heads.filter fun h => decide (∃ r ∈ rules, r.1 = h ∧ ∀ s ∈ r.2.1, s ∈ T4 ++ g)
noncomputable def zda (rules : List Ru) (heads : List Str) : Nat -> List Str
 | 0 => []
 | i + 1 => zjd rules heads (zda rules heads i)
theorem zo4 : ∀ i, zdv rules heads i = T4 ++ zda rules heads i
 | 0 => rfl
 | i + 1 => by
  show T4 ++ _ = T4 ++ _
  rw [zo4 i]; rfl
theorem zh6 {g g' : List Str} (h : ∀ s ∈ g, s ∈ g') : ∀ x, decide (∃ r ∈ rules, r.1 = x ∧ ∀ s ∈ r.2.1, s ∈ T4 ++ g) = true -> decide (∃ r ∈ rules, r.1 = x ∧ ∀ s ∈ r.2.1, s ∈ T4 ++ g') = true := fun x hx => by
 obtain ⟨r, hr, e, k⟩ := of_decide_eq_true hx
 exact decide_eq_true ⟨r, hr, e, fun s hs => by
  rcases List.mem_append.mp (k s hs) with z | z
  ·exact List.mem_append_left _ z
  ·exact List.mem_append_right _ (h s z)⟩
theorem zka : ∀ i, ∀ s ∈ zda rules heads i, s ∈ zda rules heads (i + 1)
 | 0, s, h => by cases h
 | i + 1, s, h => by
  have h : s ∈ zjd rules heads (zda rules heads i) := h
  show s ∈ zjd rules heads (zda rules heads (i + 1))
  unfold zjd at h ⊢
  rw [List.mem_filter] at h ⊢
  exact ⟨h.1, zh6 (zka i) s h.2⟩
theorem zfi {p q : Str -> Bool} (h : ∀ x, p x = true -> q x = true) : ∀ l : List Str, (l.filter p).length ≤ (l.filter q).length ∧ ((l.filter p).length = (l.filter q).length -> l.filter p = l.filter q)
 | [] => ⟨Nat.le_refl _, fun J => rfl⟩
 | x :: l => by
  obtain ⟨h1, h2⟩ := zfi h l
  rw [List.filter_cons, List.filter_cons]
  by_cases hp : p x = true
  ·rw [if_pos hp, if_pos (h x hp)]
   exact ⟨by simpa using h1, fun e => by rw [h2 (by simpa using e)]⟩
  ·rw [if_neg hp]
   by_cases hq : q x = true
   ·rw [if_pos hq]
    refine ⟨by simp; lia, fun e => ?_⟩
    simp at e; lia
   ·rw [if_neg hq]; exact ⟨h1, h2⟩
theorem zh7 : ∀ i, zda rules heads (i + 1) = zda rules heads i ∨ i < (zda rules heads (i + 1)).length
 | 0 => by
  cases h : zda rules heads 1 with
  | nil => exact .inl rfl
  | cons x r => exact .inr (by simp)
 | i + 1 => by
  rcases zh7 i with h | h
  ·left
   show zjd rules heads (zda rules heads (i + 1)) = zjd rules heads (zda rules heads i)
   rw [h]
  ·obtain ⟨h1, h2⟩ := zfi (zh6 (rules := rules) (zka (rules := rules) (heads := heads) i)) heads
   by_cases e : (zda rules heads (i + 1)).length = (zda rules heads (i + 1 + 1)).length
   ·exact .inl (h2 e).symm
   ·right
    have : (zda rules heads (i + 1)).length ≤ (zda rules heads (i + 1 + 1)).length := h1
    lia
theorem zo5 : zjd rules heads (zda rules heads heads.length) = zda rules heads heads.length := by
 rcases zh7 (rules := rules) (heads := heads) heads.length with h | h
 ·exact h
 ·have : (zda rules heads (heads.length + 1)).length ≤ heads.length := List.length_filter_le _ _
  lia
end
structure HnOk (rules : List Ru) (heads names : List Str) : Prop where
 hn : heads.Nodup
 hd : ∀ s, s ∈ heads ↔ ∃ r ∈ rules, r.1 = s
 nn : names.Nodup
 nm : ∀ s, s ∈ names ↔ s ∈ abcd ∧ ∃ r ∈ rules, s = r.1 ∨ s ∈ r.2.1
structure Gz (t : GT) (pr : Prs) (pd : Pd) (st : Str) (f0 : List (Str × V)) : Prop where
 kT : kys t.tT = T4
 hd : ∀ p ∈ pd, p.1.1 ∉ T4
 N1 : ∀ s, s ∈ kys t.tN ↔ (∃ p ∈ pd, p.1.1 = s) ∨ (s ∉ T4 ∧ ∃ p ∈ pd, s ∈ p.1.2.1)
 uT : ∀ s xs, mget (tcon t.tT) s = some xs -> (xs = [] ↔ ∀ p ∈ pd, s ∉ p.1.2.1)
 uN : ∀ s xs, mget (tcon t.tN) s = some xs -> (xs = [] ↔ s ≠ st ∧ ∀ p ∈ pd, s ∉ p.1.2.1)
 ps : t.ps = psV ((f0, [st]) :: pd.map rsE)
 f0p : dget f0 "prod" = some (.tup [.str st])
 fl : ∀ p ∈ pd, dget p.2 "name" = some (.str p.1.1) ∧ dget p.2 "prod" = some (.tup (p.1.2.1.map .str))
 gs : ∃ gs : Gs, tcon t.tR = gsV gs ∧ (∀ n, rsOf gs n = (ofHd pd n).map rsE) ∧ (∀ e ∈ gs, ∃ p ∈ pd, p.1.1 = e.1) ∧ ∀ p ∈ pd, p.1.1 ∈ gs.map (·.1)
 pr : t.pr = prV pr
 up : ∀ w, w ≠ Str.ofString "" -> (t.ups.1 w = true ↔ ∃ p ∈ pd, p.1.2.2 = w)
 st : ∃ p ∈ pd, p.1.1 = st
 kN : (kys t.tN).Nodup
 kR : (kys t.tR).Nodup
 lT : ∀ e ∈ t.tT, e.2.2.length ≤ 10000
 lN : ∀ e ∈ t.tN, e.2.2.length ≤ 10000
theorem zo6 {t : Tab} {k : Str} {a : Addr} {xs ys : List V} (hk : (kys t).Nodup) (ha : (adr t).Nodup) (e : tget t k = some (a, xs)) (s : Str) : mget (tcon (tset t a ys)) s = if s = k then some ys else mget (tcon t) s := by
 rw [zju hk ha e]
 have hm : mget (tcon t) k = some xs := by rw [zfh, e]; rfl
 generalize tcon t = m at hm
 unfold mget at hm ⊢
 induction m with
 | nil => cases hm
 | cons p r ih =>
  obtain ⟨b, zs⟩ := p
  rw [List.map_cons, List.find?_cons, List.find?_cons]
  rw [List.find?_cons] at hm
  by_cases h1 : b = k
  ·subst h1
   by_cases h2 : s = b
   ·subst h2; simp
   ·have h2' : ¬ b = s := fun e => h2 e.symm
    simp only [if_true, h2', decide_false, if_neg h2]
    by_cases h3 : b ∈ r.map (·.1)
    ·obtain ⟨q, hq, e⟩ := List.mem_map.mp h3
     -- further entries of the same name do not matter for s
     clear ih hm h3 hq
     induction r with
     | nil => rfl
     | cons q r ih =>
      rw [List.map_cons, List.find?_cons, List.find?_cons]
      by_cases h4 : q.1 = b
      ·have : ¬ q.1 = s := fun z => h2' (h4.symm.trans z)
       rw [if_pos h4]
       have d1 : decide (((q.1, ys) : Str × List V).1 = s) = false := decide_eq_false this
       rw [d1]; exact ih
      ·rw [if_neg h4]
       cases decide (q.1 = s) with
       | true => rfl
       | false => exact ih
    ·have : (r.map fun p => if p.1 = b then (p.1, ys) else p) = r := by
      conv => rhs; rw [← List.map_id r]
      refine List.map_congr_left fun p hp => ?_
      rw [if_neg fun z => h3 (List.mem_map.mpr ⟨p, hp, z⟩)]; rfl
     rw [this]
  ·have e1 : (if (b, zs).1 = k then ((b, zs).1, ys) else (b, zs)) = (b, zs) := if_neg h1
   have d0 : decide ((b, zs).1 = k) = false := decide_eq_false h1
   rw [d0] at hm
   rw [e1]
   by_cases h3 : b = s
   ·have h4 : ¬ s = k := fun z => h1 (h3.trans z)
    have d1 : decide ((b, zs).1 = s) = true := decide_eq_true h3
    rw [d1, if_neg h4]
   ·have d1 : decide ((b, zs).1 = s) = false := decide_eq_false h3
    rw [d1]; exact ih hm
theorem Gq.start {H : Hp} {g : GA} {t t' : GT} {pr : Prs} {pd : Pd} {st : Str} {a : Addr} {xs : List V} {f0 : List (Str × V)} {p0 : V} (G : Gq t pr pd) (gr : Gr H g t) (gr' : Gr H' g t') (hz : pd.length ≤ 7) (hst : ∃ p ∈ pd, p.1.1 = st) (hN : tget t.tN st = some (a, xs)) (hp : PrF f0 0 "S'" [st] p0)
  (e : t' = { t with ps := t.ps.set 0 (.inst 68 f0), tN := tset t.tN a (xs ++ [.int 0]), start := .str st }) : Gz t' pr pd st f0 := by
 have hTN := gr.apart
 subst e
 refine ⟨G.kT, G.hd, fun s => by show s ∈ kys (tset _ _ _) ↔ _; rw [zdn]; exact G.N1 s, G.uT, fun s ys h => ?_, ?_, hp.2.1, G.fl, G.gs, G.pr, G.up, hst, gr'.kN, gr'.kR, fun e he => ?_, fun e he => ?_⟩
 ·have h : mget (tcon (tset t.tN a (xs ++ [.int 0]))) s = some ys := h
  rw [zo6 gr.kN hTN.2.2.2.2.1 hN] at h
  by_cases z : s = st
  ·rw [if_pos z] at h
   injection h with h
   subst h
   simp [z]
  ·rw [if_neg z] at h
   rw [G.uN s ys h]
   exact ⟨fun k => ⟨z, k⟩, fun k => k.2⟩
 ·show t.ps.set 0 _ = _
  rw [G.ps]; rfl
 ·have := G.lT _ (zcv he); dsimp only at this; lia
 ·have he : e ∈ tset t.tN a (xs ++ [.int 0]) := he
  have hx := G.lN _ (zcv (zbk hN))
  dsimp only at hx
  unfold tset at he
  obtain ⟨e', h1, h2⟩ := List.mem_map.mp he
  have h3 := G.lN _ (zcv h1)
  dsimp only at h3
  subst h2
  split
  ·rw [List.length_append]; simp; lia
  ·lia
section
variable {t : GT} {pr : Prs} {pd : Pd} {st : Str} {f0 : List (Str × V)} {heads names : List Str}
theorem Gz.R (G : Gz t pr pd st f0) (s : Str) : s ∈ kys t.tR ↔ ∃ p ∈ pd, p.1.1 = s := by
 obtain ⟨gs, g1, g2, g3, g4⟩ := G.gs
 rw [← zal, g1, zcu]
 constructor
 ·intro h
  obtain ⟨e, he, rfl⟩ := List.mem_map.mp h
  exact g3 e he
 ·rintro ⟨p, hp, rfl⟩
  exact g4 p hp
theorem zi8 (t : Tab) (s : Str) : (dget (tof t) s).isSome = true ↔ s ∈ kys t := by
 rw [zby, Option.isSome_map, ← zal, ← zdg, zfh, Option.isSome_map]
theorem zhi {s : Str} : (∃ r ∈ rus pd, r.1 = s) ↔ ∃ p ∈ pd, p.1.1 = s := by
 constructor
 ·rintro ⟨r, hr, e⟩
  obtain ⟨p, hp, rfl⟩ := List.mem_map.mp hr
  exact ⟨p, hp, e⟩
 ·rintro ⟨p, hp, e⟩
  exact ⟨p.1, List.mem_map.mpr ⟨p, hp, rfl⟩, e⟩
theorem Gz.und (G : Gz t pr pd st f0) (hn : HnOk (rus pd) heads names) (s : Str) : und t s = true ↔ s ∉ heads ∧ s ∉ T4 := by
 unfold W1.und
 rw [Bool.and_eq_true, Bool.and_eq_true, Bool.not_eq_true', Bool.not_eq_true', Bool.not_eq_true', ← Bool.not_eq_true, zi8, ← Bool.not_eq_true, zi8, G.R, G.kT, decide_eq_false_iff_not, hn.hd, zhi]
 constructor
 ·rintro ⟨h1, h2, _⟩; exact ⟨h1, h2⟩
 ·rintro ⟨h1, h2⟩
  exact ⟨h1, h2, fun z => h2 (by rw [z]; decide +kernel)⟩
theorem zfj {n : Str} {p : Ru × List (Str × V)} : p ∈ ofHd pd n ↔ p ∈ pd ∧ p.1.1 = n := by unfold ofHd; rw [List.mem_filter, decide_eq_true_iff]
theorem zqt {gs : Gs} (hk : (gs.map (·.1)).Nodup) {e : Str × Rs} (he : e ∈ gs) : rsOf gs e.1 = e.2 := by
 unfold rsOf
 have : gs.find? (fun x => decide (x.1 = e.1)) = some e := by
  induction gs with
  | nil => cases he
  | cons a gs ih =>
   rw [List.find?_cons]
   rw [List.map_cons, List.nodup_cons] at hk
   rcases List.mem_cons.mp he with rfl | he
   ·simp
   ·have : ¬ a.1 = e.1 := fun z => hk.1 (List.mem_map.mpr ⟨e, he, z.symm⟩)
    rw [decide_eq_false this]
    exact ih hk.2 he
 rw [this]
theorem Gz.ic (G : Gz t pr pd st f0) (h1 : ∀ r ∈ rus pd, r.1 ∈ abcd) (h2 : ∀ r ∈ rus pd, ∀ s ∈ r.2.1, s ∈ zaz) (h3 : ∀ r ∈ rus pd, r.2.1.length ≤ 3) :
  ∃ gs, IcOk t gs ∧ (gs.map (·.1)).Nodup ∧ (∀ n, rsOf gs n = (ofHd pd n).map rsE) ∧ (∀ e ∈ gs, ∃ p ∈ pd, p.1.1 = e.1) ∧ ∀ p ∈ pd, p.1.1 ∈ gs.map (·.1) := by
 obtain ⟨gs, g1, g2, g3, g4⟩ := G.gs
 have hk : (gs.map (·.1)).Nodup := by rw [← zcu, ← g1, zal]; exact G.kR
 have hrm : ∀ p ∈ pd, p.1 ∈ rus pd := fun p hp => List.mem_map.mpr ⟨p, hp, rfl⟩
 have hN : ∀ s ∈ kys t.tN, s ∈ abcd := fun s hs => by
  rcases (G.N1 s).mp hs with ⟨p, hp, rfl⟩ | ⟨h4, p, hp, h5⟩
  ·exact h1 _ (hrm p hp)
  ·have := h2 _ (hrm p hp) s h5
   have key : ∀ s ∈ zaz, s ∈ T4 ∨ s ∈ abcd := by decide +kernel
   exact (key s this).resolve_left h4
 have hlN : t.tN.length ≤ 4 := by
  have := zbp (m := abcd) G.kN hN
  unfold kys at this
  rwa [List.length_map] at this
 have hin : ∀ e ∈ gs, ∀ r ∈ e.2, ∃ p ∈ pd, r = rsE p := fun e he r hr => by
  rw [← zqt hk he, g2] at hr
  obtain ⟨p, hp, e⟩ := List.mem_map.mp hr
  exact ⟨p, (zfj.mp hp).1, e.symm⟩
 refine ⟨gs, ⟨g1, fun e he r hr => ?_, fun k hk hk2 => ?_, by rw [G.kT]; decide +kernel, fun h => ?_, fun e he => ?_, fun e he r hr s hs => ?_, ?_, by lia⟩, hk, g2, g3, g4⟩
 ·obtain ⟨p, hp, rfl⟩ := hin e he r hr
  have h := h3 _ (hrm p hp)
  exact ⟨(G.fl p hp).2, Nat.le_trans h (by decide)⟩
 ·rw [G.kT] at hk
  have key : ∀ s ∈ T4, s ∉ abcd := by decide +kernel
  exact key k hk (hN k hk2)
 ·have key : Str.ofString "$end" ∉ abcd := by decide +kernel
  exact key (hN _ h)
 ·exact (G.N1 _).mpr (.inl (g3 e he))
 ·obtain ⟨p, hp, rfl⟩ := hin e he r hr
  by_cases z : s ∈ T4
  ·exact .inl (by rw [G.kT]; exact z)
  ·exact .inr ((G.N1 s).mpr (.inr ⟨z, p, hp, hs⟩))
 ·have : t.tT.length = (kys t.tT).length := by unfold kys; rw [List.length_map]
  rw [this, G.kT]; decide
theorem zmn {gs : Gs} (g2 : ∀ n, rsOf gs n = (ofHd pd n).map rsE) {x y : Str} : y ∈ sucs gs x ↔ ∃ p ∈ pd, p.1.1 = x ∧ y ∈ p.1.2.1 := by
 unfold sucs
 rw [g2, List.mem_flatMap]
 constructor
 ·rintro ⟨r, hr, h⟩
  obtain ⟨p, hp, rfl⟩ := List.mem_map.mp hr
  obtain ⟨h1, h2⟩ := zfj.mp hp
  exact ⟨p, h1, h2, h⟩
 ·rintro ⟨p, hp, h1, h2⟩
  exact ⟨rsE p, List.mem_map.mpr ⟨p, zfj.mpr ⟨hp, h1⟩, rfl⟩, h2⟩
theorem zun {gs : Gs} (g2 : ∀ n, rsOf gs n = (ofHd pd n).map rsE) (x : Str) : Rc gs st x ↔ Rr (rus pd) st x := by
 constructor
 ·intro h
  induction h with
  | refl => exact .base
  | step _ hy ih =>
   obtain ⟨p, hp, e, h2⟩ := (zmn g2).mp hy
   exact .step (r := p.1) (List.mem_map.mpr ⟨p, hp, rfl⟩) (e ▸ ih) h2
 ·intro h
  induction h with
  | base => exact .refl
  | @step r s hr _ hs ih =>
   obtain ⟨p, hp, rfl⟩ := List.mem_map.mp hr
   exact .step ih ((zmn g2).mpr ⟨p, hp, rfl, hs⟩)
theorem Gz.nmI (G : Gz t pr pd st f0) (h1 : ∀ r ∈ rus pd, r.1 ∈ abcd) (h2 : ∀ r ∈ rus pd, ∀ s ∈ r.2.1, s ∈ zaz) (hn : HnOk (rus pd) heads names) (s : Str) : s ∈ kys t.tN ↔ s ∈ names := by
 have key : ∀ s ∈ zaz, s ∈ T4 ∨ s ∈ abcd := by decide +kernel
 have key2 : ∀ s ∈ abcd, s ∉ T4 := by decide +kernel
 rw [G.N1, hn.nm]
 constructor
 ·rintro (⟨p, hp, rfl⟩ | ⟨h3, p, hp, h4⟩)
  ·exact ⟨h1 _ (List.mem_map.mpr ⟨p, hp, rfl⟩), p.1, List.mem_map.mpr ⟨p, hp, rfl⟩, .inl rfl⟩
  ·exact ⟨(key s (h2 _ (List.mem_map.mpr ⟨p, hp, rfl⟩) s h4)).resolve_left h3, p.1, List.mem_map.mpr ⟨p, hp, rfl⟩, .inr h4⟩
 ·rintro ⟨h3, r, hr, h4⟩
  obtain ⟨p, hp, rfl⟩ := List.mem_map.mp hr
  rcases h4 with h4 | h4
  ·exact .inl ⟨p, hp, h4.symm⟩
  ·exact .inr ⟨key2 s h3, p, hp, h4⟩
theorem zvi (G : Gz t pr pd st f0) (h1 : ∀ r ∈ rus pd, r.1 ∈ abcd) (h2 : ∀ r ∈ rus pd, ∀ s ∈ r.2.1, s ∈ zaz) (hn : HnOk (rus pd) heads names) {gs : Gs} (g2 : ∀ n, rsOf gs n = (ofHd pd n).map rsE) {S' : Str -> Bool} (hS : ∀ x, S' x = true ↔ Rc gs st x) {line : List Str} (hl : ∀ s, s ∈ line ↔ Rr (rus pd) st s) :
  ((kys t.tN).filter fun k => !S' k).Perm (names.filter fun k => decide (k ∉ line)) := by
 refine zez (G.kN.sublist List.filter_sublist) (hn.nn.sublist List.filter_sublist) fun x => ?_
 rw [List.mem_filter, List.mem_filter, G.nmI h1 h2 hn, Bool.not_eq_true', ← Bool.not_eq_true, hS, zun g2, decide_eq_true_iff, hl]
theorem zrj {gs : Gs} (G : Gz t pr pd st f0) (h2 : ∀ r ∈ rus pd, ∀ s ∈ r.2.1, s ∈ zaz) (h1 : ∀ r ∈ rus pd, r.1 ∈ abcd) (hn : HnOk (rus pd) heads names) (hk : (gs.map (·.1)).Nodup) (g2 : ∀ n, rsOf gs n = (ofHd pd n).map rsE) (g4 : ∀ p ∈ pd, p.1.1 ∈ gs.map (·.1)) {s : Str} (hs : s ∈ T4 ∨ s ∈ kys t.tN) :
  Tm (kys t.tN) gs s ↔ s ∈ zdv (rus pd) heads heads.length := by
 have key2 : ∀ s ∈ abcd, s ∉ T4 := by decide +kernel
 have hT : ∀ s ∈ T4, s ∉ kys t.tN := fun s h3 h4 => by
  have := ((hn.nm s).mp ((G.nmI h1 h2 hn s).mp h4)).1
  exact key2 s this h3
 rw [zo4]
 constructor
 ·intro h
  induction h with
  | tok h => exact List.mem_append_left _ (hs.resolve_right h)
  | @head e r he hr hall ih =>
   refine List.mem_append_right _ ?_
   rw [← zo5]
   have hr' := hr
   rw [← zqt hk he, g2] at hr'
   obtain ⟨p, hp, e2⟩ := List.mem_map.mp hr'
   obtain ⟨h3, h4⟩ := zfj.mp hp
   have hrm : p.1 ∈ rus pd := List.mem_map.mpr ⟨p, h3, rfl⟩
   refine List.mem_filter.mpr ⟨(hn.hd _).mpr ⟨p.1, hrm, h4⟩, decide_eq_true ⟨p.1, hrm, h4, fun s hs => ?_⟩⟩
   have hsr : s ∈ r.2 := by rw [← e2]; exact hs
   refine ih s hsr ?_
   by_cases z : s ∈ T4
   ·exact .inl z
   ·exact .inr ((G.N1 s).mpr (.inr ⟨z, p, h3, hs⟩))
 ·intro h
  have snd : ∀ i, ∀ s ∈ T4 ++ zda (rus pd) heads i, Tm (kys t.tN) gs s := by
   intro i
   induction i with
   | zero => exact fun s hs => .tok (hT s (by simpa [zda] using hs))
   | succ i ih =>
    intro s hs
    rcases List.mem_append.mp hs with hs | hs
    ·exact .tok (hT s hs)
    ·obtain ⟨h3, h4⟩ := List.mem_filter.mp hs
     obtain ⟨r, hr, e, hall⟩ := of_decide_eq_true h4
     obtain ⟨p, hp, rfl⟩ := List.mem_map.mp hr
     obtain ⟨e', he', e2⟩ := List.mem_map.mp (g4 p hp)
     have : rsE p ∈ e'.2 := by
      rw [← zqt hk he', g2]
      exact List.mem_map.mpr ⟨p, zfj.mpr ⟨hp, e2.symm⟩, rfl⟩
     have := Tm.head he' this fun s hs => ih s (hall s hs)
     rwa [e2, e] at this
  exact snd _ s h
theorem zvj {gs : Gs} (G : Gz t pr pd st f0) (h1 : ∀ r ∈ rus pd, r.1 ∈ abcd) (h2 : ∀ r ∈ rus pd, ∀ s ∈ r.2.1, s ∈ zaz) (hn : HnOk (rus pd) heads names) (hk : (gs.map (·.1)).Nodup) (g2 : ∀ n, rsOf gs n = (ofHd pd n).map rsE) (g4 : ∀ p ∈ pd, p.1.1 ∈ gs.map (·.1))
  {f : Str -> Bool} (f1 : Snd (kys t.tN) gs f) (f2 : Cld gs f) (f3 : ∀ s, s ∉ kys t.tN -> f s = true) :
  ((ksOf t).filter fun k => !f k && !und t k).Perm (heads.filter fun k => decide (k ∉ zdv (rus pd) heads heads.length)) := by
 have key2 : ∀ s ∈ abcd, s ∉ T4 := by decide +kernel
 have hT : ∀ s ∈ T4, s ∉ kys t.tN := fun s h3 h4 => by
  have := ((hn.nm s).mp ((G.nmI h1 h2 hn s).mp h4)).1
  exact key2 s this h3
 have hE : Str.ofString "$end" ∉ kys t.tN := fun h => by
  have := ((hn.nm _).mp ((G.nmI h1 h2 hn _).mp h)).1
  exact absurd this (by decide +kernel)
 have ff : ∀ s, f s = true ↔ Tm (kys t.tN) gs s := fun s => by
  refine ⟨f1 s, fun h => ?_⟩
  induction h with
  | tok h => exact f3 _ h
  | head he hr _ ih =>
   refine f2 _ he ?_
   unfold hit
   exact List.any_eq_true.mpr ⟨_, hr, List.all_eq_true.mpr fun s hs => ih s hs⟩
 have e1 : (ksOf t).filter (fun k => !f k && !und t k) = (kys t.tN).filter fun k => !f k && !und t k := by
  have a1 : List.filter (fun k => !f k && !und t k) T4 = [] := by
   rw [List.filter_eq_nil_iff]
   intro s hs
   rw [f3 s (hT s hs)]; simp
  have a2 : List.filter (fun k => !f k && !und t k) (Str.ofString "$end" :: kys t.tN) = List.filter (fun k => !f k && !und t k) (kys t.tN) := by
   rw [List.filter_cons, f3 _ hE]; rfl
  unfold ksOf
  rw [List.filter_append, G.kT, a1, a2]; rfl
 rw [e1]
 refine zez (G.kN.sublist List.filter_sublist) (hn.hn.sublist List.filter_sublist) fun x => ?_
 rw [List.mem_filter, List.mem_filter, Bool.and_eq_true, Bool.not_eq_true', Bool.not_eq_true', ← Bool.not_eq_true, ← Bool.not_eq_true, ff, G.und hn, decide_eq_true_iff]
 constructor
 ·rintro ⟨h3, h4, h5⟩
  have h6 : x ∉ T4 := fun z => hT x z h3
  have h7 : x ∈ heads := Classical.not_not.mp fun z => h5 ⟨z, h6⟩
  exact ⟨h7, fun z => h4 ((zrj G h2 h1 hn hk g2 g4 (.inr h3)).mpr z)⟩
 ·rintro ⟨h3, h4⟩
  have h5 : x ∈ kys t.tN := (G.N1 x).mpr (.inl (zhi.mp ((hn.hd x).mp h3)))
  exact ⟨h5, fun z => h4 ((zrj G h2 h1 hn hk g2 g4 (.inr h5)).mp z), fun z => z.1 h3⟩
end
theorem zd7 {α : Type} {f : α -> Str} {p : α -> Bool} {q : Str -> Bool} : ∀ {l : List α}, (∀ e ∈ l, p e = q (f e)) -> (l.filter p).map f = (l.map f).filter q
 | [], _ => rfl
 | a :: l, h => by
  have ih := zd7 (l := l) fun e he => h e (.tail _ he)
  rw [List.filter_cons, List.map_cons, List.filter_cons, h a (.head _)]
  split
  ·rw [List.map_cons, ih]
  ·exact ih
theorem zi9 {m : List (Str × List V)} (hk : (m.map (·.1)).Nodup) {k : Str} {xs : List V} (h : (k, xs) ∈ m) : mget m k = some xs := by
 unfold mget
 induction m with
 | nil => cases h
 | cons p m ih =>
  rw [List.find?_cons]
  rw [List.map_cons, List.nodup_cons] at hk
  rcases List.mem_cons.mp h with rfl | h
  ·simp
  ·have : ¬ p.1 = k := fun z => hk.1 (List.mem_map.mpr ⟨_, h, z.symm⟩)
   rw [decide_eq_false this]
   exact ih hk.2 h
theorem zh8 {α β : Type} {f g : α -> List β} : ∀ {l : List α}, (∀ x ∈ l, f x = g x) -> l.flatMap f = l.flatMap g
 | [], _ => rfl
 | a :: l, h => by
  rw [List.flatMap_cons, List.flatMap_cons, h a (.head _), zh8 fun x hx => h x (.tail _ hx)]
theorem zkb {xs : List V} : (!(!xs.isEmpty)) = true ↔ xs = [] := by cases xs <;> simp
section
variable {t : GT} {pr : Prs} {pd : Pd} {st : Str} {f0 : List (Str × V)} {heads names stands : List Str}
noncomputable def uls (t : GT) (pd : Pd) : List (Str × (Ru × List (Str × V))) := pd.flatMap fun p => (p.1.2.1.filter (und t)).map fun s => (s, p)
noncomputable def uE (x : Str × (Ru × List (Str × V))) : V := .tup [.str x.1, .inst 68 x.2.2]
noncomputable def uD (x : Str × (Ru × List (Str × V))) : V := .tup [.str x.1, .str x.2.1.1, .list (x.2.1.2.1.map .str)]
noncomputable def zlp (names heads : List Str) (r : Ru) : List V := (r.2.1.filter fun s => decide (s ∈ names) && !decide (s ∈ heads)).map fun s => .tup [.str s, .str r.1, .list (r.2.1.map .str)]
theorem zo7 {x : Str × (Ru × List (Str × V))} (h : x ∈ uls t pd) : x.2 ∈ pd := by
 obtain ⟨p, hp, h⟩ := List.mem_flatMap.mp h
 obtain ⟨s, _, rfl⟩ := List.mem_map.mp h
 exact hp
theorem ztg (G : Gz t pr pd st f0) (hn : HnOk (rus pd) heads names) : undV t ((f0, [st]) :: pd.map rsE) = (uls t pd).map uE := by
 have hst : und t st = false := by
  rw [← Bool.not_eq_true, G.und hn]
  exact fun z => z.1 ((hn.hd st).mpr (zhi.mpr G.st))
 have h0 : zdu t (f0, [st]) 1 = [] := by
  unfold zdu
  show List.map _ (List.filter _ [st]) = []
  rw [List.filter_cons, hst]; rfl
 have key : ∀ pd : Pd, undV t (pd.map rsE) = (uls t pd).map uE := fun pd => by
  unfold undV uls
  rw [List.flatMap_map, List.map_flatMap]
  congr 1
  funext p
  show zdu t (rsE p) (rsE p).2.length = _
  unfold zdu
  rw [List.take_length, List.map_map]; rfl
 show zdu t (f0, [st]) 1 ++ undV t (pd.map rsE) = _
 rw [h0, key]; rfl
theorem zrk (G : Gz t pr pd st f0) (h2 : ∀ r ∈ rus pd, ∀ s ∈ r.2.1, s ∈ zaz) (hn : HnOk (rus pd) heads names) : (uls t pd).map uD = (rus pd).flatMap (zlp names heads) := by
 have key : ∀ s ∈ zaz, (s ∉ T4 ↔ s ∈ abcd) := by decide +kernel
 unfold uls rus
 rw [List.flatMap_map, List.map_flatMap]
 refine zh8 fun p hp => ?_
 have hrm : p.1 ∈ rus pd := List.mem_map.mpr ⟨p, hp, rfl⟩
 unfold zlp
 rw [List.map_map]
 have : p.1.2.1.filter (und t) = p.1.2.1.filter fun s => decide (s ∈ names) && !decide (s ∈ heads) := by
  refine List.filter_congr fun s hs => ?_
  rw [Bool.eq_iff_iff, G.und hn, Bool.and_eq_true, decide_eq_true_iff, Bool.not_eq_true', decide_eq_false_iff_not, hn.nm, key s (h2 _ hrm s hs)]
  exact ⟨fun z => ⟨⟨z.2, p.1, hrm, .inr hs⟩, z.1⟩, fun z => ⟨z.2, z.1.1⟩⟩
 rw [this]; rfl
theorem zkc (names heads : List Str) (r : Ru) : (zlp names heads r).length ≤ r.2.1.length := by
 unfold zlp
 rw [List.length_map]; exact List.length_filter_le _ _
theorem zvk (G : Gz t pr pd st f0) (h1 : ∀ r ∈ rus pd, r.1 ∈ abcd) (hs : ∀ s, s ∈ stands ↔ s = st ∨ ∃ r ∈ rus pd, s ∈ r.2.1) :
  pick unT (fun e => .str e.1) t.tT = (toks.filter fun k => decide (k ∉ stands)).map .str := by
 have hst : st ∈ abcd := by
  obtain ⟨p, hp, e⟩ := G.st
  exact e ▸ h1 _ (List.mem_map.mpr ⟨p, hp, rfl⟩)
 have key2 : ∀ s ∈ abcd, s ∉ T4 := by decide +kernel
 have e1 : (t.tT.filter unT).map (·.1) = (kys t.tT).filter fun s : Str => !decide (s = "error") && decide (s ∉ stands) := by
  refine zd7 (q := fun s : Str => !decide (s = "error") && decide (s ∉ stands)) fun e he => ?_
  have hk : ((tcon t.tT).map (·.1)).Nodup := by rw [zal, G.kT]; decide +kernel
  have h3 := G.uT e.1 e.2.2 (zi9 hk (zcv he))
  have h4 : e.1 ∈ T4 := G.kT ▸ List.mem_map.mpr ⟨e, he, rfl⟩
  unfold unT
  rw [Bool.eq_iff_iff, Bool.and_eq_true, Bool.and_eq_true, zkb, h3, decide_eq_true_iff, hs]
  constructor
  ·rintro ⟨z, z2⟩
   refine ⟨z, ?_⟩
   rintro (z3 | ⟨r, hr, z3⟩)
   ·exact key2 _ hst (z3 ▸ h4)
   ·obtain ⟨p, hp, rfl⟩ := List.mem_map.mp hr
    exact z2 p hp z3
  ·rintro ⟨z, z2⟩
   exact ⟨z, fun p hp z3 => z2 (.inr ⟨p.1, List.mem_map.mpr ⟨p, hp, rfl⟩, z3⟩)⟩
 have e2 : pick unT (fun e => .str e.1) t.tT = ((t.tT.filter unT).map (·.1)).map .str := by unfold pick; rw [List.map_map]; rfl
 rw [e2, e1, G.kT]
 congr 1
theorem zli (p : Str -> Bool) : sortedS (toks.filter p) = true := by
 have : ∀ a b c : Bool, sortedS ((if a then [("x" : Str)] else []) ++ ((if b then [("y" : Str)] else []) ++ (if c then [("z" : Str)] else []))) = true := by decide +kernel
 have e : toks.filter p = (if p "x" then [("x" : Str)] else []) ++ ((if p "y" then [("y" : Str)] else []) ++ (if p "z" then [("z" : Str)] else [])) := by
  rw [List.filter_cons, List.filter_cons, List.filter_cons, List.filter_nil]
  cases p "x" <;> cases p "y" <;> cases p "z" <;> rfl
 rw [e]; exact this _ _ _
noncomputable def fb (rules : List Ru) (s : Str) : List Str := ((rules.find? fun r => decide (r.1 = s)).map (·.2.1)).getD []
noncomputable def fbV (rules : List Ru) (s : Str) : Str × List V := (s, [.list ((fb rules s).map .str)])
noncomputable def ufO (pd : Pd) (s : Str) : V := .inst 68 (((pd.find? fun p => decide (p.1.1 = s)).map (·.2)).getD [])
theorem zvl (pd : Pd) (s : Str) : fb (rus pd) s = ((pd.find? fun p => decide (p.1.1 = s)).map (·.1.2.1)).getD [] := by
 unfold fb rus
 rw [List.find?_map, Option.map_map]; rfl
theorem zrl (G : Gz t pr pd st f0) {s : Str} (h : ∃ p ∈ pd, p.1.1 = s) : ∃ fs, ufO pd s = .inst 68 fs ∧ dget fs "name" = some (.str s) ∧ dget fs "prod" = some (.tup ((fb (rus pd) s).map .str)) := by
 obtain ⟨p, hp, e⟩ := h
 rw [zvl]
 unfold ufO
 cases h2 : pd.find? fun p => decide (p.1.1 = s) with
 | none => exact absurd (List.find?_eq_none.mp h2 p hp) (by simp [e])
 | some q =>
  have hq := List.mem_of_find?_eq_some h2
  have he : q.1.1 = s := of_decide_eq_true (List.find?_some (p := fun p : Ru × List (Str × V) => decide (p.1.1 = s)) h2)
  obtain ⟨g1, g2⟩ := G.fl q hq
  exact ⟨q.2, rfl, he ▸ g1, g2⟩
theorem zuo (G : Gz t pr pd st f0) {s : Str} (h : ∃ p ∈ pd, p.1.1 = s) : ∃ a r, tget t.tR s = some (a, ufO pd s :: r) := by
 obtain ⟨gs, g1, g2, g3, g4⟩ := G.gs
 have hk : (gs.map (·.1)).Nodup := by rw [← zcu, ← g1, zal]; exact G.kR
 obtain ⟨p, hp, e⟩ := h
 have hm : mget (tcon t.tR) s = some (psV (rsOf gs s)) := by
  obtain ⟨e', he', e2⟩ := List.mem_map.mp (g4 p hp)
  rw [g1]
  refine zi9 (by rw [zcu]; exact hk) ?_
  have e3 : e'.1 = s := e2.trans e
  refine List.mem_map.mpr ⟨e', he', ?_⟩
  rw [← e3, zqt hk he']
 rw [zfh, g2] at hm
 obtain ⟨⟨a, xs⟩, h3, h4⟩ := Option.map_eq_some_iff.mp hm
 have h4 : xs = _ := h4
 refine ⟨a, ((ofHd pd s).map rsE).tail.map fun r => .inst 68 r.1, ?_⟩
 rw [h3, h4]
 congr 2
 unfold ufO psV ofHd
 have key : ∀ l : Pd, (∃ p ∈ l, p.1.1 = s) -> List.map (fun r : List (Str × V) × List Str => V.inst 68 r.1) (List.map rsE (List.filter (fun p => decide (p.1.1 = s)) l)) = V.inst 68 (((l.find? fun p => decide (p.1.1 = s)).map (·.2)).getD []) :: List.map (fun r => V.inst 68 r.1) (List.map rsE (List.filter (fun p => decide (p.1.1 = s)) l)).tail := by
  intro l hl
  induction l with
  | nil => obtain ⟨_, h, _⟩ := hl; cases h
  | cons q l ih =>
   rw [List.filter_cons, List.find?_cons]
   by_cases z : q.1.1 = s
   ·rw [decide_eq_true z]; rfl
   ·rw [decide_eq_false z]
    obtain ⟨p, hp, e⟩ := hl
    rcases List.mem_cons.mp hp with rfl | hp
    ·exact absurd e z
    ·exact ih ⟨p, hp, e⟩
 exact key pd ⟨p, hp, e⟩
theorem Gz.unN (G : Gz t pr pd st f0) {e : Ent} (he : e ∈ t.tN) : W1.unN e = true ↔ e.1 ≠ st ∧ ∀ r ∈ rus pd, e.1 ∉ r.2.1 := by
 have hk : ((tcon t.tN).map (·.1)).Nodup := by rw [zal]; exact G.kN
 have h3 := G.uN e.1 e.2.2 (zi9 hk (zcv he))
 unfold W1.unN
 rw [zkb, h3]
 refine and_congr_right fun J => ⟨fun h r hr => ?_, fun h p hp => h p.1 (List.mem_map.mpr ⟨p, hp, rfl⟩)⟩
 obtain ⟨p, hp, rfl⟩ := List.mem_map.mp hr
 exact h p hp
theorem Gz.unH (G : Gz t pr pd st f0) {e : Ent} (he : e ∈ t.tN) (h : W1.unN e = true) : ∃ p ∈ pd, p.1.1 = e.1 := by
 have h2 := (G.unN he).mp h
 rcases (G.N1 e.1).mp (List.mem_map.mpr ⟨e, he, rfl⟩) with z | ⟨_, p, hp, z⟩
 ·exact z
 ·exact absurd z (h2.2 _ (List.mem_map.mpr ⟨p, hp, rfl⟩))
noncomputable def unL (t : GT) : List Str := (t.tN.filter unN).map (·.1)
theorem zqu (t : GT) (uf : Str -> V) : pick unN (fun e => uf e.1) t.tN = (unL t).map uf := by unfold pick unL; rw [List.map_map]; rfl
theorem zvm (G : Gz t pr pd st f0) (hs : ∀ s, s ∈ stands ↔ s = st ∨ ∃ r ∈ rus pd, s ∈ r.2.1) {fl : List Str} (hf : fl.Nodup) (hm : ∀ s, s ∈ fl ↔ s ∉ stands ∧ ∃ r ∈ rus pd, r.1 = s) :
  (unL t).Perm fl ∧ (unL t).Nodup ∧ ∀ s ∈ unL t, ∃ p ∈ pd, p.1.1 = s := by
 have nd : (unL t).Nodup := G.kN.sublist (List.Sublist.map _ List.filter_sublist)
 have mem : ∀ s ∈ unL t, ∃ p ∈ pd, p.1.1 = s := fun s h => by
  obtain ⟨e, he, rfl⟩ := List.mem_map.mp h
  obtain ⟨h3, h4⟩ := List.mem_filter.mp he
  exact G.unH h3 h4
 refine ⟨zez nd hf fun s => ?_, nd, mem⟩
 rw [hm, hs]
 constructor
 ·intro h
  refine ⟨?_, zhi.mpr (mem s h)⟩
  obtain ⟨e, he, rfl⟩ := List.mem_map.mp h
  obtain ⟨h3, h4⟩ := List.mem_filter.mp he
  have := (G.unN h3).mp h4
  rintro (z | ⟨r, hr, z⟩)
  ·exact this.1 z
  ·exact this.2 r hr z
 ·rintro ⟨h, h2⟩
  have hk : s ∈ kys t.tN := (G.N1 s).mpr (.inl (zhi.mp h2))
  obtain ⟨e, he, rfl⟩ := List.mem_map.mp hk
  refine List.mem_map.mpr ⟨e, List.mem_filter.mpr ⟨he, (G.unN he).mpr ⟨fun z => h (.inl z), fun r hr z => h (.inr ⟨r, hr, z⟩)⟩⟩, rfl⟩
theorem Gz.unP (G : Gz t pr pd st f0) {p : Str × Str × Int} (hw : p.1 ∈ zca) : W1.unP t p = true ↔ p.1 ∉ toks ∧ p.1 ∉ (rus pd).map (·.2.2) := by
 have k1 : ∀ w ∈ zca, w ≠ Str.ofString "" ∧ (w ∈ T4 ↔ w ∈ toks) := by decide +kernel
 obtain ⟨k2, k3⟩ := k1 _ hw
 unfold W1.unP
 rw [Bool.not_eq_true', ← Bool.not_eq_true, Bool.or_eq_true, zi8, G.kT, G.up _ k2, k3, not_or]
 refine and_congr_right fun J => not_congr ?_
 rw [List.mem_map]
 constructor
 ·rintro ⟨q, hq, e⟩; exact ⟨q.1, List.mem_map.mpr ⟨q, hq, rfl⟩, e⟩
 ·rintro ⟨r, hr, e⟩
  obtain ⟨q, hq, rfl⟩ := List.mem_map.mp hr
  exact ⟨q, hq, e⟩
end
section
variable {P : Params} {F : Fx} {n : Nat} {loc : Loc} {H : Hp}
noncomputable def zu1 : Option FuncData -> List Stmt
 | some fd => (match fd.body with | .stmts b => b | _ => [])
 | none => []
noncomputable def ztn : Option FuncData -> List (Str × NameKind)
 | some fd => fd.scope.names
 | none => []
noncomputable def zf5 (P : Params) : List Stmt := zu1 (kFd (K P) 282)
noncomputable def zaw (P : Params) : List (Str × NameKind) := ztn (kFd (K P) 282)
noncomputable def zc8 (L : Nat) : List (Str × Addr) := [("stands", L + 1 + 11), ("ends", L + 1 + 10), ("line", L + 1 + 9), ("names", L + 1 + 8), ("heads", L + 1 + 7), ("body", L + 1 + 6), ("head", L + 1 + 5), ("rules", L + 1 + 4), ("kinds", L + 1 + 3), ("words", L + 1 + 2), ("k", L + 1 + 1), ("script", L + 1 + 0)]
noncomputable def LQ (a2 a3 a9 a12 a13 a14 a18 a19 : Option V) : Loc := [none, none, a2, a3, none, none, none, none, none, a9, none, none, a12, a13, a14, none, none, none, a18, a19, none, none, none, none, none, none, none, none, none, none, none, none]
noncomputable abbrev CO (c0 c1 c2 c3 c4 c5 c6 c7 c8 c9 c10 c11 : Option V) : List (Option V) := [c0, c1, c2, c3, c4, c5, c6, c7, c8, c9, c10, c11]
noncomputable abbrev sV (l : List Str) : Option V := some (.list (l.map .str))
noncomputable abbrev rV (l : List Ru) : Option V := some (.list (l.map ru3))
noncomputable def fH (h : Str) : V -> Option V
 | .tup (.str h' :: _) => if h' = h then some (.int 1) else none
 | _ => none
theorem zup (h : Str) (r : Ru) : fH h (ru3 r) = if r.1 = h then some (.int 1) else none := rfl
theorem zrm (h : Str) (l : List Ru) : ((l.map ru3).filterMap (fH h)).length = 0 ↔ ∀ r ∈ l, r.1 ≠ h := by
 rw [List.length_eq_zero_iff, List.filterMap_map, List.filterMap_eq_nil_iff]
 refine forall_congr' fun r => forall_congr' fun J => ?_
 show fH h (ru3 r) = none ↔ _
 rw [zup]
 by_cases z : r.1 = h <;> simp [z]
noncomputable def f3 : V -> Option V
 | .tup [_, _, x] => some x
 | _ => none
theorem zc5 {α β : Type} {f g : α -> Option β} : ∀ {l : List α}, (∀ x ∈ l, f x = g x) -> l.filterMap f = l.filterMap g
 | [], _ => rfl
 | a :: l, h => by rw [List.filterMap_cons, List.filterMap_cons, h a (.head _), zc5 fun x hx => h x (.tail _ hx)]
theorem zuq (l : List Ru) : (l.map ru3).filterMap f3 = (l.map (·.2.2)).map .str := by
 rw [List.filterMap_map, List.map_map]
 exact List.filterMap_eq_map ▸ rfl
noncomputable def fU : V -> Option V
 | .inst 68 fs => some (.tup [(dget fs "name").getD .none, .list (match dget fs "prod" with | some (.tup xs) => xs | _ => [])])
 | _ => none
theorem zur {fs : List (Str × V)} {s : Str} {b : List Str} (h1 : dget fs "name" = some (.str s)) (h2 : dget fs "prod" = some (.tup (b.map .str))) : fU (.inst 68 fs) = some (.tup [.str s, .list (b.map .str)]) := by
 show some (V.tup [(dget fs "name").getD .none, .list (match dget fs "prod" with | some (.tup xs) => xs | _ => [])]) = _
 rw [h1, h2]; rfl
noncomputable def fI (pr : Prs) (c : Str -> Bool) : V -> Option V
 | .int k => if c pr[k.toNat]!.1 then some (unPV pr[k.toNat]!) else none
 | _ => none
theorem zus (pr : Prs) (c : Str -> Bool) : ((List.range pr.length).map fun (k : Nat) => V.int k).filterMap (fI pr c) = (pr.filter fun p => c p.1).map unPV := by
 have key : ∀ m, m ≤ pr.length -> ((List.range m).map fun (k : Nat) => V.int k).filterMap (fI pr c) = ((pr.take m).filter fun p => c p.1).map unPV := by
  intro m
  induction m with
  | zero => intro _; rfl
  | succ m ih =>
   intro hm
   have hlt : m < pr.length := hm
   rw [List.range_succ, List.map_append, List.filterMap_append, ih (Nat.le_of_lt hlt), zao hlt, List.filter_append, List.map_append]
   congr 1
   show List.filterMap (fI pr c) [V.int (m : Int)] = _
   have e : fI pr c (.int (m : Int)) = if c pr[m].1 then some (unPV pr[m]) else none := by
    show (if c pr[((m : Int)).toNat]!.1 then some (unPV pr[((m : Int)).toNat]!) else none) = _
    rw [Int.toNat_natCast, getElem!_pos pr m hlt]
   rw [List.filterMap_cons, e, List.filter_cons]
   split <;> rename_i h
   ·split at h
    ·cases h
    ·rename_i z; rw [if_neg z]; rfl
   ·split at h
    ·rename_i z; rw [if_pos z]; cases h; rfl
    ·cases h
 have := key pr.length (Nat.le_refl _)
 rwa [List.take_length] at this
theorem zut (rules : List Ru) (l : List Str) : (V.list ((l.map (fbV rules)).map tupV)).isD 20 = true := by
 rw [List.map_map]
 simp [V.isD, fbV, tupV]
theorem zuu (l : Prs) : (V.list ((l.map fun p => (p.1, [V.str p.2.1])).map tupV)).isD 20 = true := by
 rw [List.map_map]
 simp [V.isD, tupV]
theorem zuv {rules : List Ru} (h : ∀ r ∈ rules, r.2.1.length ≤ 3) (s : Str) : (fb rules s).length ≤ 3 := by
 unfold fb
 cases e : rules.find? fun r => decide (r.1 = s) with
 | none => exact Nat.zero_le _
 | some r => exact h r (List.mem_of_find?_eq_some e)
theorem zqv (rules : List Ru) (l : List Str) : (l.map (fbV rules)).map (·.1) = l := by rw [List.map_map]; exact List.map_id l
inductive Z1 (L : Nat) (g : GA) (t : GT) (pr : Prs) (pd : Pd) (stands : List Str) (c0 : Option V) (c5 : Option V) (c6 : Option V) (c7 : Option V) (c8 : Option V) (c9 : Option V) (c10 : Option V) (a2 : Option V) (a9 : Option V) (a12 : Option V) (a13 : Option V) (a14 : Option V) (a : Addr) (l : Loc) (H' : Hp) : Prop
 | mk (c1 : Option V) (fl : List Str) (_ : Gr H' g t) (_ : zba H' L (CO c0 c1 (sV (pr.map (·.1))) (sV (pr.map (·.2.1))) (rV (rus pd)) c5 c6 c7 c8 c9 c10 (sV stands))) (_ : H'.L a = some ((fl.map (fbV (rus pd))).map tupV)) (_ : fl.length ≤ (rus pd).length) (_ : fl.Nodup) (_ : (∀ s, s ∈ fl ↔ s ∉ stands ∧ ∃ r ∈ rus pd, r.1 = s)) (_ : l = LQ a2 (some (.ref g.g)) a9 a12 a13 a14 (some (.ref a)) none) : Z1 L g t pr pd stands c0 c5 c6 c7 c8 c9 c10 a2 a9 a12 a13 a14 a l H'
inductive Z2 (L : Nat) (g : GA) (t : GT) (pr : Prs) (pd : Pd) (stands : List Str) (c0 : Option V) (c5 : Option V) (c6 : Option V) (c7 : Option V) (c8 : Option V) (c9 : Option V) (c10 : Option V) (a2 : Option V) (a9 : Option V) (a12 : Option V) (a13 : Option V) (a14 : Option V) (a : Addr) (i : Nat) (l : Loc) (H' : Hp) : Prop
 | mk (c1 : Option V) (fl : List Str) (_ : Gr H' g t) (_ : zba H' L (CO c0 c1 (sV (pr.map (·.1))) (sV (pr.map (·.2.1))) (rV (rus pd)) c5 c6 c7 c8 c9 c10 (sV stands))) (_ : H'.L a = some ((fl.map (fbV (rus pd))).map tupV)) (_ : fl.length ≤ i) (_ : fl.Nodup) (_ : (∀ s, s ∈ fl ↔ s ∉ stands ∧ ∃ r ∈ (rus pd).take i, r.1 = s)) (_ : l = LQ a2 (some (.ref g.g)) a9 a12 a13 a14 (some (.ref a)) none) : Z2 L g t pr pd stands c0 c5 c6 c7 c8 c9 c10 a2 a9 a12 a13 a14 a i l H'
theorem lwZ (ok : Ok F 12) (W : Wd (K P) F.c.base) {L : Nat} (hF : zah F (zaw P) (zc8 L)) {g : GA} {t : GT} {pr : Prs} {pd : Pd} {st : Str} {f0 : List (Str × V)} {stands : List Str} (gr : Gr H g t) {c0 c1 c5 c6 c7 c8 c9 c10 : Option V}
  (cs : zba H L (CO c0 c1 (sV (pr.map (·.1))) (sV (pr.map (·.2.1))) (rV (rus pd)) c5 c6 c7 c8 c9 c10 (sV stands))) (G : Gz t pr pd st f0) (hrl : pd.length ≤ 7) (hpl : pr.length ≤ 6) (hpn : (pr.map (·.1)).Nodup) (hpw : ∀ p ∈ pr, p.1 ∈ zca) (h3 : ∀ r ∈ rus pd, r.2.1.length ≤ 3) (hsl : stands.length ≤ 100) (hN4 : t.tN.length ≤ 4)
  (hs : ∀ s, s ∈ stands ↔ s = st ∨ ∃ r ∈ rus pd, s ∈ r.2.1) {a2 a9 a12 a13 a14 : Option V} :
  WSs F ((zf5 P).drop 22) (LQ a2 (some (.ref g.g)) a9 a12 a13 a14 none none) H (fun fl J J => fl = .ret (.bool true)) := by
 have hlr : (rus pd).length ≤ 7 := by unfold rus; rw [List.length_map]; exact hrl
 -- first
 refine zaa (sAsg ok hF rfl (za9 (zaf ⟨by simp, fun a ha => ?_⟩)))
 have haf : a ∉ GT.lists g t := gr.freshL ha
 have gr1 := gr.upL ha []
 have cs1 := cs.newL ha []
 have e1 : ((H.aL a []) : Hp).L a = some [] := zac _ _ _
 generalize ((H.aL a []) : Hp) = H1 at gr1 cs1 e1
 clear cs gr
 refine za0 (Z1 L g t pr pd stands c0 c5 c6 c7 c8 c9 c10 a2 a9 a12 a13 a14 a) (fun Q1 b1 => zsn ok W hF rfl rfl (eLen ok W hF rfl rfl (zam ok hF rfl rfl (cs1.get (i := 4) rfl)) rfl (List.length_map _) (Nat.le_trans hlr (by decide))) (Nat.le_trans hlr (by decide)) ?_) ?_
 ·refine za3 (fun i => zce i) (rus pd).length (Z2 L g t pr pd stands c0 c5 c6 c7 c8 c9 c10 a2 a9 a12 a13 a14 a) ⟨c1, [], gr1, cs1, e1, Nat.le_refl _, List.nodup_nil, (fun s => by simp), rfl⟩ ?_ ?_
  ·rintro i Q2 b2 l H' hi ⟨c1, fl, gr2, cs2, e2, hfl, hfn, hfm, rfl⟩
   have ok1 := ok.inl
   have cs3 := cs2.set (i := 1) (by show 1 < 12; decide) (some (.int (i : Int)))
   have gr3 := gr2.cellA (L + 1 + 1) (some (.int (i : Int)))
   have htk : (rus pd).take (i + 1) = (rus pd).take i ++ [(rus pd)[i]] := zao hi
   have hri : ((rus pd).map ru3)[i]? = some (ru3 (rus pd)[i]) := by rw [List.getElem?_map, List.getElem?_eq_getElem hi]; rfl
   have hfind : (∀ r ∈ (rus pd).take i, r.1 ≠ (rus pd)[i].1) -> fbV (rus pd) (rus pd)[i].1 = ((rus pd)[i].1, [.list ((rus pd)[i].2.1.map .str)]) := fun hno => by
    have : (rus pd).find? (fun r => decide (r.1 = (rus pd)[i].1)) = some (rus pd)[i] := by
     rw [List.find?_eq_some_iff_getElem]
     refine ⟨decide_eq_true rfl, i, hi, rfl, fun j hj => ?_⟩
     have := hno (rus pd)[j] (List.mem_take_iff_getElem.mpr ⟨j, Nat.lt_min.mpr ⟨hj, Nat.lt_trans hj hi⟩, rfl⟩)
     rw [decide_eq_false this]; rfl
    unfold fbV fb
    rw [this]; rfl
   have hlm : ((rus pd).map ru3).length ≤ 1000000 := by rw [List.length_map]; exact Nat.le_trans hlr (by decide)
   generalize (rus pd)[i] = r at htk hri hfind
   refine ⟨_, zew hi, zfv ok1 hF rfl rfl (cs2.get (i := 1) rfl) ?_⟩
   have e3 : ((H'.aC (L + 1 + 1) (some (.int (i : Int)))) : Hp).L a = some ((fl.map (fbV (rus pd))).map tupV) := e2
   clear cs2 gr2 e2
   generalize ((H'.aC (L + 1 + 1) (some (.int (i : Int)))) : Hp) = H2 at cs3 gr3 e3
   have er := cs3.get (i := 4) rfl
   have ek := cs3.get (i := 1) rfl
   have es := cs3.get (i := 11) rfl
   refine zaa (sIf (b := decide (r.1 ∉ stands) && decide ((((((rus pd).take i).map ru3).filterMap (fH r.1)).length : Nat) = (0 : Int))) (bAnd (bCmp (eSub (eSub (zam ok1 hF rfl rfl er) (zam ok1 hF rfl rfl ek) (zfz rfl hri hlm)) eInt (uTup rfl)) (zam ok1 hF rfl rfl es) (zge ok1 rfl)) (fun J => bCmp (eLen ok1 W hF rfl rfl (zot ok1 [("rules", L + 1 + 4), ("k", L + 1 + 1)] (f := fH r.1) (eCut (zam ok1 hF rfl rfl er) (zam ok1 hF rfl rfl ek) rfl hlm) rfl (by rw [List.length_take]; lia) (fun C sv E okc j x hx => ?_) (zds hF rfl) (zcf ok1 rfl)) rfl (by rw [List.map_take]) (by refine Nat.le_trans (List.length_filterMap_le _ _) ?_; rw [List.length_map, List.length_take]; lia)) eInt kEqi)) (fun hb => ?_) (fun hb => ?_))
   ·rw [← List.map_take] at hx
    obtain ⟨r', _, rfl⟩ := zgd hx
    exact zld (fun J q => tLoc okc (zai ok1 hF) rfl q) (bCmp (eSub (eLoc okc (zai ok1 hF) rfl rfl) eInt (uTup rfl)) (eSub (eSub (zam okc (zai ok1 hF) rfl rfl er) (zam okc (zai ok1 hF) rfl rfl ek) (zfz rfl hri hlm)) eInt (uTup rfl)) kEqs) (fun J => eInt) (by rw [zup]; by_cases z : r'.1 = r.1 <;> simp [z])
   ·rw [Bool.and_eq_true, decide_eq_true_iff, decide_eq_true_iff, Int.natCast_eq_zero, zrm] at hb
    obtain ⟨hb1, hb2⟩ := hb
    have hnew : r.1 ∉ fl := fun z => by
     obtain ⟨_, r', hr', e⟩ := (hfm r.1).mp z
     exact hb2 r' hr' e
    refine zaa (sApp ok1 (eLoc ok1 hF rfl rfl) e3 (eTup (zaj (eSub (eSub (zam ok1 hF rfl rfl er) (zam ok1 hF rfl rfl ek) (zfz rfl hri hlm)) eInt (uTup rfl)) (zaj (eSub (eSub (zam ok1 hF rfl rfl er) (zam ok1 hF rfl rfl ek) (zfz rfl hri hlm)) eInt (uTup rfl)) eNil))) (by rw [List.length_map, List.length_map]; exact Nat.le_trans hfl (Nat.le_trans (Nat.le_of_lt hi) (Nat.le_trans hlr (by decide)))) (zab (zab (b2.n ⟨some (.int (i : Int)), fl ++ [r.1], gr3.keepL haf _, cs3.setL e3 _, ?_, ?_, ?_, fun s => ?_, rfl⟩))))
    ·refine (zac _ _ _).trans ?_
     rw [List.map_append, List.map_append]
     show _ = some (_ ++ [tupV (fbV (rus pd) r.1)])
     rw [hfind hb2]; rfl
    ·rw [List.length_append]; exact Nat.succ_le_succ hfl
    ·rw [List.nodup_append]
     exact ⟨hfn, List.nodup_cons.mpr ⟨List.not_mem_nil, List.nodup_nil⟩, fun a ha b hb' => by rw [List.mem_singleton] at hb'; subst hb'; exact fun z => hnew (z ▸ ha)⟩
    ·rw [htk, List.mem_append, hfm, List.mem_singleton]
     constructor
     ·rintro (⟨z1, r', hr', e⟩ | rfl)
      ·exact ⟨z1, r', List.mem_append_left _ hr', e⟩
      ·exact ⟨hb1, r, List.mem_append_right _ (.head _), rfl⟩
     ·rintro ⟨z1, r', hr', e⟩
      rcases List.mem_append.mp hr' with hr' | hr'
      ·exact .inl ⟨z1, r', hr', e⟩
      ·rw [List.mem_singleton] at hr'; subst hr'; exact .inr e.symm
   ·have hb : ¬ (r.1 ∉ stands ∧ ∀ r' ∈ (rus pd).take i, r'.1 ≠ r.1) := fun z => by
     rw [Bool.and_eq_false_iff, decide_eq_false_iff_not, decide_eq_false_iff_not, Int.natCast_eq_zero, zrm] at hb
     exact hb.elim (fun y => y z.1) fun y => y z.2
    refine zab (zab (b2.n ⟨some (.int (i : Int)), fl, gr3, cs3, e3, Nat.le_succ_of_le hfl, hfn, fun s => ?_, rfl⟩))
    rw [hfm, htk]
    constructor
    ·rintro ⟨z1, r', hr', e⟩
     exact ⟨z1, r', List.mem_append_left _ hr', e⟩
    ·rintro ⟨z1, r', hr', e⟩
     rcases List.mem_append.mp hr' with hr' | hr'
     ·exact ⟨z1, r', hr', e⟩
     ·rw [List.mem_singleton] at hr'; subst hr'
      exact ⟨z1, Classical.byContradiction fun z => hb ⟨e.symm ▸ z1, fun r2 hr2 e2 => z ⟨r2, hr2, e2.trans e⟩⟩⟩
  ·rintro l H' ⟨c1, fl, gr2, cs2, e2, hfl, hfn, hfm, rfl⟩
   rw [List.take_length] at hfm
   exact ⟨zb0 (ok.handled (Nat.succ_ne_zero _)) (Nat.le_refl _), zab (b1.n ⟨c1, fl, gr2, cs2, e2, hfl, hfn, hfm, rfl⟩)⟩
 clear cs1 gr1 e1
 rintro l H2 ⟨c1, fl, gr, cs, e2, hfl, hfn, hfm, rfl⟩
 obtain ⟨hE1, hE2, hE3⟩ := zvm G hs hfn hfm
 have huL : (unL t).length ≤ 7 := by rw [hE1.length_eq]; lia
 -- unused rules
 have huR : EvC F (.ref 176) [.ref g.g] (LQ a2 (some (.ref g.g)) a9 a12 a13 a14 (some (.ref a)) none) H2 (.list ((unL t).map (ufO pd))) := fun Q q => zed (zbv (zs1 (uf := ufO pd) ok W gr (Nat.le_trans hN4 (by decide)) G.lN (fun e he h => zuo G (G.unH he h)) (by rw [zqu]; exact q)))
 have hfl7 : fl.length ≤ 7 := Nat.le_trans hfl hlr
 refine zaa (sIf (zt7 ok W hF rfl rfl (zou ok [] (f := fU) (zj4 (eLoc ok hF rfl rfl) (fun J q => zhq (f := 176) ok W gr (by decide) q) eNil (zc9 ok W) huR) rfl (by rw [List.length_map]; exact Nat.le_trans huL (by decide)) (fun C sv E okc j x hx => ?_) (zds hF rfl) (zcf ok rfl)) (eLoc ok hF rfl rfl) (ps := (unL t).map (fbV (rus pd))) ?_ e2 (hE1.map _) (by rw [zqv]; exact hE2) (by rw [List.length_map]; exact Nat.lt_of_le_of_lt huL (by decide)) (zut _ _)) (fun h => absurd h Bool.false_ne_true) (fun J => zab ?_))
 ·obtain ⟨s, hs', rfl⟩ := zgd hx
  obtain ⟨fs, u1, u2, u3⟩ := zrl G (hE3 s hs')
  have hb3 := zuv h3 s
  rw [u1]
  exact zqg (fun J q => tLoc okc (zai ok hF) rfl q) (eTup (zaj (zbt (eLoc okc (zai ok hF) rfl rfl) (fun J q => getI okc W u2 rfl q)) (zaj (zmd okc (eBi okc W (zai ok hF) rfl rfl (by boot_by_name) (by decide)) (zbt (eLoc okc (zai ok hF) rfl rfl) (fun J q => getI okc W u3 rfl q)) (.inr rfl) (za1 hb3)) eNil))) (zur u2 u3)
 ·refine congrArg some ?_
  rw [List.filterMap_map, List.map_map, ← List.filterMap_eq_map]
  refine zc5 fun s hs' => ?_
  obtain ⟨fs, u1, u2, u3⟩ := zrl G (hE3 s hs')
  show fU (ufO pd s) = _
  rw [u1, zur u2 u3]; rfl
 -- idle words
 have hwl : ((pr.map (·.1)).map V.str).length = pr.length := by rw [List.length_map, List.length_map]
 have hkl : ((pr.map (·.2.1)).map V.str).length = pr.length := by rw [List.length_map, List.length_map]
 have hp6 : pr.length ≤ 1000000 := Nat.le_trans hpl (by decide)
 let cI : Str -> Bool := fun w => decide (w ∉ toks) && decide (w ∉ (rus pd).map (·.2.2))
 have ew := cs.get (i := 2) rfl
 have ek := cs.get (i := 3) rfl
 have er := cs.get (i := 4) rfl
 refine zaa (zi4 ok [("words", L + 1 + 2), ("rules", L + 1 + 4), ("kinds", L + 1 + 3)] (.inr ⟨_, rfl⟩) (by rw [show F.nm = zaw P from hF.1]; rfl) (swY ok hF rfl rfl rfl) (zds hF rfl) (by decide) rfl (zcf ok rfl) (by decide) (zd1 (goE (eBi ok W hF rfl rfl (by boot_by_name) (by decide)) ⟨rfl, goEs (zaj (eLen ok W hF rfl rfl (zam ok hF rfl rfl ew) rfl hwl hp6) eNil) ⟨pr.length, rfl, by lia, (List.range pr.length).map (fun (k : Nat) => V.int k), fI pr cI, ⟨fun i => zce i, by rw [List.length_map, List.length_range]; exact Nat.le_trans hpl (by decide), fun C sv E okc => ⟨zft, fun j y hy => ?_, zb0 (okc.handled (Nat.succ_ne_zero _)) (by rw [List.length_map, List.length_range]; exact Nat.le_refl _)⟩⟩, ?_⟩⟩)))
 ·rw [List.getElem?_map] at hy
  obtain ⟨k', hk', rfl⟩ := Option.map_eq_some_iff.mp hy
  obtain ⟨hj', e⟩ := List.getElem?_eq_some_iff.mp hk'
  rw [List.getElem_range] at e
  rw [List.length_range] at hj'
  subst e
  have hw1 : ((pr.map (·.1)).map V.str)[j]? = some (.str pr[j].1) := by rw [List.getElem?_map, List.getElem?_map, List.getElem?_eq_getElem hj']; rfl
  have hk1 : ((pr.map (·.2.1)).map V.str)[j]? = some (.str pr[j].2.1) := by rw [List.getElem?_map, List.getElem?_map, List.getElem?_eq_getElem hj']; rfl
  have efi : fI pr cI (.int (j : Int)) = if cI pr[j].1 then some (unPV pr[j]) else none := by
   show (if cI pr[((j : Int)).toNat]!.1 then some (unPV pr[((j : Int)).toNat]!) else none) = _
   rw [Int.toNat_natCast, getElem!_pos pr j hj']
  generalize pr[j] = w at hw1 hk1 efi
  refine ⟨zew hj', zld (fun J q => tLoc okc (zai ok hF) rfl q) (bAnd (bCmp (eSub (zam okc (zai ok hF) rfl rfl ew) (eLoc okc (zai ok hF) rfl rfl) (zfz rfl hw1 (hwl ▸ hp6))) (zff okc W (zai ok hF) rfl rfl (zfg W)) (zge okc rfl)) (fun J => bCmp (eSub (zam okc (zai ok hF) rfl rfl ew) (eLoc okc (zai ok hF) rfl rfl) (zfz rfl hw1 (hwl ▸ hp6))) (zou okc [] (f := f3) (zam okc (zai ok hF) rfl rfl er) rfl (by rw [List.length_map]; exact Nat.le_trans hlr (by decide)) (fun C2 sv2 E2 okc2 m x hx => ?_) (zds (zai ok hF) rfl) (zcf okc rfl)) (zge okc (congrArg some (zuq (rus pd)))))) (fun J => eTup (zaj (eSub (zam okc (zai ok hF) rfl rfl ew) (eLoc okc (zai ok hF) rfl rfl) (zfz rfl hw1 (hwl ▸ hp6))) (zaj (eSub (zam okc (zai ok hF) rfl rfl ek) (eLoc okc (zai ok hF) rfl rfl) (zfz rfl hk1 (hkl ▸ hp6))) eNil))) efi⟩
  obtain ⟨r, _, rfl⟩ := zgd hx
  exact zqg (fun J q => tLoc okc2 (zai okc (zai ok hF)) rfl q) (eSub (eLoc okc2 (zai okc (zai ok hF)) rfl rfl) eInt (uTup rfl)) rfl
 rw [zus]
 have hid : (pr.filter fun p => cI p.1) = pr.filter (unP t) := List.filter_congr fun p hp => by
  rw [Bool.eq_iff_iff, G.unP (hpw p hp)]
  show (decide _ && decide _) = true ↔ _
  rw [Bool.and_eq_true, decide_eq_true_iff, decide_eq_true_iff]
 have hun : (pr.filter fun p => cI p.1).map unPV = (((pr.filter (unP t)).map fun p => (p.1, [V.str p.2.1])).map tupV) := by
  rw [hid, List.map_map]; rfl
 rw [hun]
 have hpk : pick (unP t) unPV pr = (((pr.filter (unP t)).map fun p => (p.1, [V.str p.2.1])).map tupV) := by
  unfold pick
  rw [List.map_map]; rfl
 have hnk : (((pr.filter (unP t)).map fun p => (p.1, [V.str p.2.1])).map (·.1)).Nodup := by
  rw [List.map_map]
  exact hpn.sublist (List.Sublist.map _ List.filter_sublist)
 have huP : EvC F (.ref 183) [.ref g.g] (LQ a2 (some (.ref g.g)) a9 a12 a13 a14 (some (.ref a)) (some (.list (((pr.filter (unP t)).map fun p => (p.1, [V.str p.2.1])).map tupV)))) H2 (.list (((pr.filter (unP t)).map fun p => (p.1, [V.str p.2.1])).map tupV)) := fun Q q => zed (zbv (zs2 ok W gr G.pr hpn (Nat.le_trans hpl (by decide)) (by rw [hpk]; exact q)))
 exact zaa (sRet (zt8 ok W hF rfl rfl (zj4 (eLoc ok hF rfl rfl) (fun J q => zhq (f := 183) ok W gr (by decide) q) eNil (zc9 ok W) huP) (eLoc ok hF rfl rfl) rfl rfl hnk (by rw [List.length_map]; exact Nat.lt_of_le_of_lt (Nat.le_trans (List.length_filter_le _ _) hpl) (by decide)) (zuu _)) rfl)
end
section
variable {P : Params} {F : Fx} {n : Nat} {loc : Loc} {H : Hp}
noncomputable def zbb (st : Str) (rules : List Ru) : List Str := st :: rules.flatMap (·.2.1)
theorem zkd {st : Str} {rules : List Ru} (s : Str) : s ∈ zbb st rules ↔ s = st ∨ ∃ r ∈ rules, s ∈ r.2.1 := by
 unfold zbb
 rw [List.mem_cons, List.mem_flatMap]
theorem zja {st : Str} {rules : List Ru} {i : Nat} (hi : i < rules.length) : zbb st (rules.take (i + 1)) = zbb st (rules.take i) ++ rules[i].2.1 := by
 unfold zbb
 rw [zao hi, List.flatMap_append]; simp
theorem zd8 {st : Str} : ∀ {rules : List Ru}, (∀ r ∈ rules, r.2.1.length ≤ 3) -> (zbb st rules).length ≤ 1 + 3 * rules.length
 | [], _ => by simp [zbb]
 | r :: rules, h => by
  have h1 := zd8 (st := st) (rules := rules) fun x hx => h x (.tail _ hx)
  have h2 := h r (.head _)
  unfold zbb at h1 ⊢
  rw [List.length_cons] at h1 ⊢
  rw [List.flatMap_cons, List.length_append, List.length_cons]
  lia
structure Kn (t : GT) (pr : Prs) (pd : Pd) (st : Str) (f0 : List (Str × V)) (heads names : List Str) : Prop where
 G : Gz t pr pd st f0
 rl : pd.length ≤ 7
 pl : pr.length ≤ 6
 pn : (pr.map (·.1)).Nodup
 pw : ∀ p ∈ pr, p.1 ∈ zca
 h1 : ∀ r ∈ rus pd, r.1 ∈ abcd
 h2 : ∀ r ∈ rus pd, ∀ s ∈ r.2.1, s ∈ zaz
 h3 : ∀ r ∈ rus pd, r.2.1.length ≤ 3
 hn : HnOk (rus pd) heads names
theorem Kn.rls {t : GT} {pr : Prs} {pd : Pd} {st : Str} {f0 : List (Str × V)} {heads names : List Str} (k : Kn t pr pd st f0 heads names) : (rus pd).length ≤ 7 := by unfold rus; rw [List.length_map]; exact k.rl
theorem Kn.hl {t : GT} {pr : Prs} {pd : Pd} {st : Str} {f0 : List (Str × V)} {heads names : List Str} (k : Kn t pr pd st f0 heads names) : heads.length ≤ 4 := zbp (m := abcd) k.hn.hn fun s hs => by
 obtain ⟨r, hr, e⟩ := (k.hn.hd s).mp hs
 exact e ▸ k.h1 r hr
theorem Kn.nl {t : GT} {pr : Prs} {pd : Pd} {st : Str} {f0 : List (Str × V)} {heads names : List Str} (k : Kn t pr pd st f0 heads names) : names.length ≤ 4 := zbp (m := abcd) k.hn.nn fun s hs => ((k.hn.nm s).mp hs).1
theorem Kn.N4 {t : GT} {pr : Prs} {pd : Pd} {st : Str} {f0 : List (Str × V)} {heads names : List Str} (k : Kn t pr pd st f0 heads names) : t.tN.length ≤ 4 := by
 have h := zbp (m := abcd) k.G.kN fun s hs => ((k.hn.nm s).mp ((k.G.nmI k.h1 k.h2 k.hn s).mp hs)).1
 unfold kys at h
 rwa [List.length_map] at h
theorem Kn.T4 {t : GT} {pr : Prs} {pd : Pd} {st : Str} {f0 : List (Str × V)} {heads names : List Str} (k : Kn t pr pd st f0 heads names) : t.tT.length = 4 := by
 have : t.tT.length = (kys t.tT).length := by unfold kys; rw [List.length_map]
 rw [this, k.G.kT]; rfl
theorem Kn.ks {t : GT} {pr : Prs} {pd : Pd} {st : Str} {f0 : List (Str × V)} {heads names : List Str} (k : Kn t pr pd st f0 heads names) : (ksOf t).length ≤ 9 := by
 have h1 := k.N4
 have h2 := k.T4
 unfold ksOf kys
 rw [List.length_append, List.length_cons, List.length_map, List.length_map]
 lia
theorem zo8 (rules : List Ru) (heads : List Str) (i : Nat) : (zdv rules heads i).length ≤ 4 + heads.length := by
 cases i with
 | zero => exact Nat.le_add_right _ _
 | succ i =>
  show (zpk rules heads _).length ≤ _
  unfold zpk
  rw [List.length_append]
  exact Nat.add_le_add_left (List.length_filter_le _ _) _
inductive Y1 (L : Nat) (g : GA) (t : GT) (pr : Prs) (pd : Pd) (st : Str) (heads : List Str) (c0 : Option V) (c1 : Option V) (c8 : Option V) (c9 : Option V) (a2 : Option V) (a12 : Option V) (a14 : Option V) (ends : List Str) (l : Loc) (H' : Hp) : Prop
 | mk (c5 : Option V) (c6 : Option V) (a9 : Option V) (_ : Gr H' g t) (_ : zba H' L (CO c0 c1 (sV (pr.map (·.1))) (sV (pr.map (·.2.1))) (rV (rus pd)) c5 c6 (sV heads) c8 c9 (sV ends) (sV (zbb st (rus pd))))) (_ : l = LQ a2 (some (.ref g.g)) a9 a12 (some (.str st)) a14 none none) : Y1 L g t pr pd st heads c0 c1 c8 c9 a2 a12 a14 ends l H'
inductive Y2 (L : Nat) (g : GA) (t : GT) (pr : Prs) (pd : Pd) (st : Str) (heads : List Str) (c0 : Option V) (c1 : Option V) (c8 : Option V) (c9 : Option V) (a2 : Option V) (a12 : Option V) (a14 : Option V) (ends : List Str) (i : Nat) (l : Loc) (H' : Hp) : Prop
 | mk (c5 : Option V) (c6 : Option V) (a9 : Option V) (_ : Gr H' g t) (_ : zba H' L (CO c0 c1 (sV (pr.map (·.1))) (sV (pr.map (·.2.1))) (rV (rus pd)) c5 c6 (sV heads) c8 c9 (sV ends) (sV (zbb st ((rus pd).take i))))) (_ : l = LQ a2 (some (.ref g.g)) a9 a12 (some (.str st)) a14 none none) : Y2 L g t pr pd st heads c0 c1 c8 c9 a2 a12 a14 ends i l H'
theorem lwY (ok : Ok F 12) (W : Wd (K P) F.c.base) {L : Nat} (hF : zah F (zaw P) (zc8 L)) {g : GA} {t : GT} {pr : Prs} {pd : Pd} {st : Str} {f0 : List (Str × V)} {heads names : List Str} (gr : Gr H g t) {c0 c1 c5 c6 c8 c9 c10 c11 : Option V}
  (cs : zba H L (CO c0 c1 (sV (pr.map (·.1))) (sV (pr.map (·.2.1))) (rV (rus pd)) c5 c6 (sV heads) c8 c9 c10 c11)) (k : Kn t pr pd st f0 heads names) {a2 a9 a12 a14 : Option V} :
  WSs F ((zf5 P).drop 17) (LQ a2 (some (.ref g.g)) a9 a12 (some (.str st)) a14 none none) H (fun fl J J => fl = .ret (.bool true)) := by
 have G := k.G
 have hlr := k.rls
 have hhl := k.hl
 -- ends
 have hh4 : heads.length ≤ 100 := Nat.le_trans hhl (by decide)
 have hLE : EvC F (.ref 277) [.list ((rus pd).map ru3), .list (heads.map .str)] (LQ a2 (some (.ref g.g)) a9 a12 (some (.str st)) a14 none none) H (.list ((zdv (rus pd) heads heads.length).map .str)) := fun Q q => ztf ok W (Nat.le_trans hlr (by decide)) hh4 (fun r hr => Nat.le_trans (k.h3 r hr) (by decide)) q
 refine zaa (sAC ok hF rfl rfl (cs.get (i := 10) rfl) (zlc (zff ok W hF rfl rfl (.ref _)) (zaj (zam ok hF rfl rfl (cs.get (i := 4) rfl)) (zaj (zam ok hF rfl rfl (cs.get (i := 7) rfl)) eNil)) (zc9 ok W) hLE) ?_)
 have cs1 := cs.set (i := 10) (by show 10 < 12; decide) (sV (zdv (rus pd) heads heads.length))
 have gr1 := gr.cellA (L + 1 + 10) (sV (zdv (rus pd) heads heads.length))
 have hel := zo8 (rus pd) heads heads.length
 clear hLE
 generalize he : zdv (rus pd) heads heads.length = ends at cs1 gr1 hel
 generalize ((H.aC (L + 1 + 10) (sV ends)) : Hp) = H1 at cs1 gr1
 clear cs gr
 -- infinite cycles
 obtain ⟨gs, hi, hk, g2, g3, g4⟩ := G.ic k.h1 k.h2 k.h3
 have hIC : ∀ {Q : V -> Loc -> Hp -> Prop}, (∀ f, Snd (kys t.tN) gs f -> Cld gs f -> (∀ s, s ∉ kys t.tN -> f s = true) -> Q (.list (((ksOf t).filter fun k => !f k && !und t k).map .str)) (LQ a2 (some (.ref g.g)) a9 a12 (some (.str st)) a14 none none) H1) -> Call F (.ref 155) [.ref g.g] (LQ a2 (some (.ref g.g)) a9 a12 (some (.str st)) a14 none none) H1 Q := fun q => zed (zbv (zs5 ok W gr1 hi q))
 refine zaa (zjf (zay (zav (gBi ok W hF rfl rfl (by boot_by_name) (by decide) (zag (zc1 (goE (eLoc ok hF rfl rfl) (zhq (f := 155) ok W gr1 (by decide) (zaf ⟨zc9 ok W, hIC fun f f1 f2 f3 => zaf ⟨zcq ok, zey (ss := (ksOf t).filter fun k => !f k && !und t k) rfl ?_ fun ss1 p1 s1 => ?_⟩⟩)))))))))
 ·exact Nat.lt_of_le_of_lt (List.length_filter_le _ _) (Nat.lt_of_le_of_lt k.ks (by decide))
 have hC := zvj G k.h1 k.h2 k.hn hk g2 g4 f1 f2 f3
 rw [he] at hC
 refine zov ok W hF rfl rfl (eFlt ok hF [("ends", L + 1 + 10)] (zam ok hF rfl rfl (cs1.get (i := 7) rfl)) rfl (Nat.le_trans hhl (by decide)) rfl rfl (fun J => rfl) rfl (cs1.get (i := 10) rfl) rfl (zds hF rfl) rfl) rfl (Nat.lt_of_le_of_lt (List.length_filter_le _ _) (Nat.lt_of_le_of_lt hhl (by decide))) fun ss2 p2 s2 => zd5 ok s1 s2 (p1.trans (hC.trans p2.symm)) ⟨(fun h => absurd h Bool.false_ne_true), fun J => zab ?_⟩
 clear hC p1 p2 s1 s2 ss1 ss2 f1 f2 f3 f g2 g3 g4 hk hi gs hIC
 -- stands
 refine zaa (sAC ok hF rfl rfl (cs1.get (i := 11) rfl) (zeo (zaj (eLoc ok hF rfl rfl) eNil)) ?_)
 have cs2 := cs1.set (i := 11) (by show 11 < 12; decide) (sV (zbb st []))
 have gr2 := gr1.cellA (L + 1 + 11) (sV (zbb st []))
 show WSs F _ _ ((H1.aC (L + 1 + 11) (sV (zbb st []))) : Hp) _
 generalize ((H1.aC (L + 1 + 11) (sV (zbb st []))) : Hp) = H2 at cs2 gr2
 clear cs1 gr1
 refine za0 (Y1 L g t pr pd st heads c0 c1 c8 c9 a2 a12 a14 ends) (fun Q1 b1 => zne (zam ok hF rfl rfl (cs2.get (i := 4) rfl)) rfl ?_) ?_
 ·refine za3 (fun i => zau i) (rus pd).length (Y2 L g t pr pd st heads c0 c1 c8 c9 a2 a12 a14 ends) ⟨c5, c6, a9, gr2, cs2, rfl⟩ ?_ ?_
  ·rintro i Q2 b2 l H' hi ⟨c5, c6, a9, gr3, cs3, rfl⟩
   have ok1 := ok.inl
   have hsn := zja (st := st) hi
   have hxj : ((rus pd).map ru3)[i]? = some (ru3 (rus pd)[i]) := by rw [List.getElem?_map, List.getElem?_eq_getElem hi]; rfl
   have hb3 := k.h3 _ (List.getElem_mem hi)
   have hlen : (zbb st ((rus pd).take i)).length ≤ 22 := by
    have := zd8 (st := st) (rules := (rus pd).take i) fun r hr => k.h3 r (List.mem_of_mem_take hr)
    rw [List.length_take] at this; lia
   generalize (rus pd)[i] = r at hsn hxj hb3
   have cs4 := cs3.set (i := 5) (by show 5 < 12; decide) (some (.str r.1))
   have gr4 := gr3.cellA (L + 1 + 5) (some (.str r.1))
   have cs5 := cs4.set (i := 6) (by show 6 < 12; decide) (sV r.2.1)
   have gr5 := gr4.cellA (L + 1 + 6) (sV r.2.1)
   refine ⟨.tup [.str r.1, .list (r.2.1.map .str), .str r.2.2], zbh rfl hxj, zbg ok1 rfl (zfv ok1 hF rfl rfl (cs3.get (i := 5) rfl) (zfv ok1 hF rfl rfl (cs4.get (i := 6) rfl) (tLoc ok1 hF rfl ?_)))⟩
   generalize ((((H'.aC (L + 1 + 5) (some (.str r.1))) : Hp).aC (L + 1 + 6) (sV r.2.1)) : Hp) = H3 at cs5 gr5
   clear cs4 gr4 cs3 gr3
   refine zaa (sAC ok1 hF rfl rfl (cs5.get (i := 11) rfl) (znd (zam ok1 hF rfl rfl (cs5.get (i := 11) rfl)) (zam ok1 hF rfl rfl (cs5.get (i := 6) rfl)) rfl rfl (by rw [List.length_map, List.length_map]; exact Nat.le_trans (Nat.add_le_add hlen hb3) (by decide))) ?_)
   rw [← List.map_append, ← hsn]
   exact zab (b2.n ⟨_, _, _, gr5.cellA _ _, cs5.set (i := 11) (by show 11 < 12; decide) _, rfl⟩)
  ·rintro l H' ⟨c5, c6, a9, gr3, cs3, rfl⟩
   rw [List.take_length] at cs3
   exact ⟨zan (ok.handled (Nat.succ_ne_zero _)) rfl (by rw [List.length_map]; exact Nat.le_refl _), zab (b1.n ⟨c5, c6, a9, gr3, cs3, rfl⟩)⟩
 clear cs2 gr2
 rintro l H3 ⟨c5, c6, a9, gr, cs, rfl⟩
 have hs := fun s => zkd (st := st) (rules := rus pd) s
 have hsl := zd8 (st := st) k.h3
 generalize zbb st (rus pd) = stands at cs hs hsl
 -- unused tokens
 have hUT : EvC F (.ref 169) [.ref g.g] (LQ a2 (some (.ref g.g)) a9 a12 (some (.str st)) a14 none none) H3 (.list ((toks.filter fun k => decide (k ∉ stands)).map .str)) := fun Q q => zed (zbv (zs0 ok W gr (by rw [k.T4]; decide) G.lT (by rw [zvk G k.h1 hs]; exact q)))
 refine zaa (sIf (b := false) (fun Q q => zay (zov ok W hF rfl rfl (zj4 (eLoc ok hF rfl rfl) (fun J q => zhq (f := 169) ok W gr (by decide) q) eNil (zc9 ok W) hUT) rfl (Nat.lt_of_le_of_lt (List.length_filter_le _ _) (by decide)) fun ss1 p1 s1 => goE (eFlt ok hF [("stands", L + 1 + 11)] (zff ok W hF rfl rfl (zfg W)) rfl (by decide) rfl rfl (fun J => rfl) rfl (cs.get (i := 11) rfl) rfl (zds hF rfl) rfl) (zd5 ok s1 (zli _) p1 q))) (fun h => absurd h Bool.false_ne_true) (fun J => zab ?_))
 exact lwZ ok W hF gr cs G k.rl k.pl k.pn k.pw k.h3 (Nat.le_trans hsl (by have := hlr; lia)) k.N4 hs
end
section
variable {P : Params} {F : Fx} {n : Nat} {loc : Loc} {H : Hp}
noncomputable def fD : V -> Option V
 | .tup [.str s, .inst 68 fs] => some (.tup [.str s, (dget fs "name").getD .none, .list (match dget fs "prod" with | some (.tup xs) => xs | _ => [])])
 | _ => none
theorem zuw {s : Str} {fs : List (Str × V)} {h : Str} {b : List Str} (h1 : dget fs "name" = some (.str h)) (h2 : dget fs "prod" = some (.tup (b.map .str))) : fD (.tup [.str s, .inst 68 fs]) = some (.tup [.str s, .str h, .list (b.map .str)]) := by
 show some (V.tup [.str s, (dget fs "name").getD .none, .list (match dget fs "prod" with | some (.tup xs) => xs | _ => [])]) = _
 rw [h1, h2]; rfl
noncomputable def fDu (names heads : List Str) (r : Ru) : V -> Option V
 | .str s => if decide (s ∈ names) && !decide (s ∈ heads) then some (.tup [.str s, .str r.1, .list (r.2.1.map .str)]) else none
 | _ => none
theorem zth (names heads : List Str) (r : Ru) (l : List Str) : (l.map .str).filterMap (fDu names heads r) = (l.filter fun s => decide (s ∈ names) && !decide (s ∈ heads)).map fun s => .tup [.str s, .str r.1, .list (r.2.1.map .str)] := by
 induction l with
 | nil => rfl
 | cons s l ih =>
  have e : fDu names heads r (.str s) = if decide (s ∈ names) && !decide (s ∈ heads) then some (.tup [.str s, .str r.1, .list (r.2.1.map .str)]) else none := rfl
  rw [List.map_cons, List.filterMap_cons, e, List.filter_cons]
  split <;> rename_i h
  ·split at h
   ·cases h
   ·rename_i z; rw [if_neg z]; exact ih
  ·split at h
   ·rename_i z; rw [if_pos z]; cases h; exact congrArg _ ih
   ·cases h
theorem zti (names heads : List Str) (r : Ru) : (r.2.1.map .str).filterMap (fDu names heads r) = zlp names heads r := zth names heads r r.2.1
noncomputable def dueV (names heads : List Str) (rules : List Ru) : List V := rules.flatMap (zlp names heads)
theorem zo9 (names heads : List Str) {rules : List Ru} {i : Nat} (hi : i < rules.length) : dueV names heads (rules.take (i + 1)) = dueV names heads (rules.take i) ++ zlp names heads rules[i] := by
 unfold dueV
 rw [zao hi, List.flatMap_append]; simp
theorem zjb (names heads : List Str) : ∀ {rules : List Ru}, (∀ r ∈ rules, r.2.1.length ≤ 3) -> (dueV names heads rules).length ≤ 3 * rules.length
 | [], _ => by simp [dueV]
 | r :: rules, h => by
  have h1 := zjb names heads (rules := rules) fun x hx => h x (.tail _ hx)
  have h2 := Nat.le_trans (zkc names heads r) (h r (.head _))
  unfold dueV at h1 ⊢
  rw [List.flatMap_cons, List.length_append, List.length_cons]
  lia
theorem ztj (names heads : List Str) (rules : List Ru) : (V.list (dueV names heads rules)).isD 20 = true := by
 show (dueV names heads rules).all (V.isD 19) = true
 rw [List.all_eq_true]
 intro x hx
 obtain ⟨r, _, hx⟩ := List.mem_flatMap.mp hx
 obtain ⟨s, _, rfl⟩ := List.mem_map.mp hx
 simp [V.isD]
inductive Q1 (L : Nat) (g : GA) (t : GT) (pr : Prs) (pd : Pd) (st : Str) (heads : List Str) (names : List Str) (c0 : Option V) (c1 : Option V) (c9 : Option V) (c10 : Option V) (c11 : Option V) (a2 : Option V) (a12 : Option V) (l : Loc) (H' : Hp) : Prop
 | mk (c5 : Option V) (c6 : Option V) (a9 : Option V) (_ : Gr H' g t) (_ : zba H' L (CO c0 c1 (sV (pr.map (·.1))) (sV (pr.map (·.2.1))) (rV (rus pd)) c5 c6 (sV heads) (sV names) c9 c10 c11)) (_ : l = LQ a2 (some (.ref g.g)) a9 a12 (some (.str st)) (some (.list (dueV names heads (rus pd)))) none none) : Q1 L g t pr pd st heads names c0 c1 c9 c10 c11 a2 a12 l H'
inductive Q2 (L : Nat) (g : GA) (t : GT) (pr : Prs) (pd : Pd) (st : Str) (heads : List Str) (names : List Str) (c0 : Option V) (c1 : Option V) (c9 : Option V) (c10 : Option V) (c11 : Option V) (a2 : Option V) (a12 : Option V) (i : Nat) (l : Loc) (H' : Hp) : Prop
 | mk (c5 : Option V) (c6 : Option V) (a9 : Option V) (_ : Gr H' g t) (_ : zba H' L (CO c0 c1 (sV (pr.map (·.1))) (sV (pr.map (·.2.1))) (rV (rus pd)) c5 c6 (sV heads) (sV names) c9 c10 c11)) (_ : l = LQ a2 (some (.ref g.g)) a9 a12 (some (.str st)) (some (.list (dueV names heads ((rus pd).take i)))) none none) : Q2 L g t pr pd st heads names c0 c1 c9 c10 c11 a2 a12 i l H'
theorem lwX (ok : Ok F 20) (W : Wd (K P) F.c.base) (N : Nest F.c.base 147 145) (hS : F.c.saved = [(145, zf3 #[])]) (hne : F.L ≠ 145) {L : Nat} (hF : zah F (zaw P) (zc8 L)) {g : GA} {t : GT} {pr : Prs} {pd : Pd} {st : Str} {f0 : List (Str × V)} {heads names : List Str} (gr : Gr H g t) {c0 c1 c5 c6 c9 c10 c11 : Option V}
  (cs : zba H L (CO c0 c1 (sV (pr.map (·.1))) (sV (pr.map (·.2.1))) (rV (rus pd)) c5 c6 (sV heads) (sV names) c9 c10 c11)) (k : Kn t pr pd st f0 heads names) {a2 a9 a12 a14 : Option V} :
  WSsx F (zbe 145 F.c.saved) ((zf5 P).drop 12) (LQ a2 (some (.ref g.g)) a9 a12 (some (.str st)) a14 none none) H (fun fl J J => fl = .ret (.bool true)) := by
 have G := k.G
 have hlr := k.rls
 have hhl := k.hl
 have hnl := k.nl
 -- due
 refine zcl (sA ok hF rfl (zeo eNil) ⟨rfl, ?_⟩)
 refine zcz (Q1 L g t pr pd st heads names c0 c1 c9 c10 c11 a2 a12) (fun Q1 b1 => zne (zam ok hF rfl rfl (cs.get (i := 4) rfl)) rfl ?_) ?_
 ·refine za3 (fun i => zau i) (rus pd).length (Q2 L g t pr pd st heads names c0 c1 c9 c10 c11 a2 a12) ⟨c5, c6, a9, gr, cs, rfl⟩ ?_ ?_
  ·rintro i Q2 b2 l H' hi ⟨c5, c6, a9, gr3, cs3, rfl⟩
   have ok1 := ok.inl
   have hsn := zo9 names heads hi
   have hxj : ((rus pd).map ru3)[i]? = some (ru3 (rus pd)[i]) := by rw [List.getElem?_map, List.getElem?_eq_getElem hi]; rfl
   have hb3 := k.h3 _ (List.getElem_mem hi)
   have hlen : (dueV names heads ((rus pd).take i)).length ≤ 21 := by
    have := zjb names heads (rules := (rus pd).take i) fun r hr => k.h3 r (List.mem_of_mem_take hr)
    rw [List.length_take] at this; lia
   generalize (rus pd)[i] = r at hsn hxj hb3
   have cs4 := cs3.set (i := 5) (by show 5 < 12; decide) (some (.str r.1))
   have gr4 := gr3.cellA (L + 1 + 5) (some (.str r.1))
   have cs5 := cs4.set (i := 6) (by show 6 < 12; decide) (sV r.2.1)
   have gr5 := gr4.cellA (L + 1 + 6) (sV r.2.1)
   refine ⟨.tup [.str r.1, .list (r.2.1.map .str), .str r.2.2], zbh rfl hxj, zbg ok1 rfl (zfv ok1 hF rfl rfl (cs3.get (i := 5) rfl) (zfv ok1 hF rfl rfl (cs4.get (i := 6) rfl) (tLoc ok1 hF rfl ?_)))⟩
   generalize ((((H'.aC (L + 1 + 5) (some (.str r.1))) : Hp).aC (L + 1 + 6) (sV r.2.1)) : Hp) = H3 at cs5 gr5
   clear cs4 gr4 cs3 gr3
   have hdl := Nat.le_trans (zkc names heads r) hb3
   have eb := cs5.get (i := 6) rfl
   have eh := cs5.get (i := 5) rfl
   refine zaa (sA ok1 hF rfl (znd (eLoc ok1 hF rfl rfl) (zot ok1 [("names", L + 1 + 8), ("heads", L + 1 + 7), ("head", L + 1 + 5), ("body", L + 1 + 6)] (f := fDu names heads r) (zam ok1 hF rfl rfl eb) rfl (by rw [List.length_map]; exact Nat.le_trans hb3 (by decide)) (fun C sv E okc j y hy => ?_) (zds hF rfl) (zcf ok1 rfl)) rfl (congrArg some (zti names heads r)) (Nat.le_trans (Nat.add_le_add hlen hdl) (by decide))) ?_)
   ·obtain ⟨s, _, rfl⟩ := zgd hy
    refine zld (fun J q => tLoc okc (zai ok1 hF) rfl q) (bAnd (bCmp (eLoc okc (zai ok1 hF) rfl rfl) (zam okc (zai ok1 hF) rfl rfl (cs5.get (i := 8) rfl)) (kIn okc rfl)) (fun J => bCmp (eLoc okc (zai ok1 hF) rfl rfl) (zam okc (zai ok1 hF) rfl rfl (cs5.get (i := 7) rfl)) (zge okc rfl))) (fun J => eTup (zaj (eLoc okc (zai ok1 hF) rfl rfl) (zaj (zam okc (zai ok1 hF) rfl rfl eh) (zaj (zam okc (zai ok1 hF) rfl rfl eb) eNil)))) ?_
    show (if decide (s ∈ names) && !decide (s ∈ heads) then _ else _) = _
    rw [show (!decide (s ∈ heads)) = decide (s ∉ heads) by simp]
   ·rw [← hsn]
    exact zab (b2.n ⟨_, _, _, gr5, cs5, rfl⟩)
  ·rintro l H' ⟨c5, c6, a9, gr3, cs3, rfl⟩
   rw [List.take_length]
   exact ⟨zan (ok.handled (Nat.succ_ne_zero _)) rfl (by rw [List.length_map]; exact Nat.le_refl _), zab (b1.n ⟨c5, c6, a9, gr3, cs3, rfl⟩)⟩
 clear cs gr
 rintro l H3 ⟨c5, c6, a9, gr, cs, rfl⟩
 -- undefined symbols
 have hps : PsOk ((f0, [st]) :: pd.map rsE) := fun r hr => by
  rcases List.mem_cons.mp hr with rfl | hr
  ·exact ⟨G.f0p, by simp⟩
  ·obtain ⟨p, hp, rfl⟩ := List.mem_map.mp hr
   exact ⟨(G.fl p hp).2, Nat.le_trans (k.h3 p.1 (List.mem_map.mpr ⟨p, hp, rfl⟩)) (by decide)⟩
 have hpl : ((f0, [st]) :: pd.map rsE).length ≤ 100 := by
  have := k.rl
  rw [List.length_cons, List.length_map]; lia
 have hdl := zjb names heads k.h3
 have hue : ((uls t pd).map uE).filterMap fD = dueV names heads (rus pd) := by
  have h1 : ((uls t pd).map uE).filterMap fD = (uls t pd).map uD := by
   rw [List.filterMap_map, ← List.filterMap_eq_map]
   refine zc5 fun x hx => ?_
   obtain ⟨u2, u3⟩ := G.fl _ (zo7 hx)
   exact zuw u2 u3
  rw [h1, zrk G k.h2 k.hn]; rfl
 have hul : (uls t pd).length ≤ 21 := by
  have h1 : ((uls t pd).map uD).length = (dueV names heads (rus pd)).length := by rw [zrk G k.h2 k.hn]; rfl
  rw [List.length_map] at h1
  lia
 have hUS : EvC F (.ref 162) [.ref g.g] (LQ a2 (some (.ref g.g)) a9 a12 (some (.str st)) (some (.list (dueV names heads (rus pd)))) none none) H3 (.list ((uls t pd).map uE)) := fun Q q => zed (zbv (zsz ok W gr hps G.ps hpl (by rw [ztg G k.hn]; exact q)))
 refine zcl (sIf (bCmp (zou ok [] (f := fD) (zj4 (eLoc ok hF rfl rfl) (fun J q => zhq (f := 162) ok W gr (by decide) q) eNil (zc9 ok W) hUS) rfl (by rw [List.length_map]; exact Nat.le_trans hul (by decide)) (fun C sv E okc j y hy => ?_) (zds hF rfl) (zcf ok rfl)) (eLoc ok hF rfl rfl) (kNeL ok (congrArg some hue) rfl (ztj _ _ _))) (fun h => absurd h Bool.false_ne_true) (fun J => zab ⟨rfl, ?_⟩))
 ·obtain ⟨x, hx, rfl⟩ := zgd hy
  have hm := zo7 hx
  obtain ⟨u2, u3⟩ := G.fl _ hm
  have hb3 := k.h3 x.2.1 (List.mem_map.mpr ⟨x.2, hm, rfl⟩)
  exact zqg (fun J q => zbg okc rfl (tLoc okc (zai ok hF) rfl (tLoc okc (zai ok hF) rfl q))) (eTup (zaj (eLoc okc (zai ok hF) rfl rfl) (zaj (zbt (eLoc okc (zai ok hF) rfl rfl) (fun J q => getI okc W u2 rfl q)) (zaj (zmd okc (eBi okc W (zai ok hF) rfl rfl (by boot_by_name) (by decide)) (zbt (eLoc okc (zai ok hF) rfl rfl) (fun J q => getI okc W u3 rfl q)) (.inr rfl) (za1 hb3)) eNil)))) (zuw u2 u3)
 -- the line
 have hst : st ∈ zaz := by
  obtain ⟨p, hp, e⟩ := G.st
  have := k.h1 p.1 (List.mem_map.mpr ⟨p, hp, rfl⟩)
  rw [e] at this
  have key : ∀ s ∈ abcd, s ∈ zaz := by decide +kernel
  exact key st this
 refine zcl (zho ok hF rfl rfl (zav (goE (zff ok W hF rfl rfl (.ref _)) (goEs (zaj (zam ok hF rfl rfl (cs.get (i := 4) rfl)) (zaj (eLoc ok hF rfl rfl) eNil)) ⟨zc9 ok W, zqp ok W (Nat.le_trans hlr (by decide)) (fun r hr => ⟨Nat.le_trans (k.h3 r hr) (by decide), k.h2 r hr⟩) hst fun line hline hll => ⟨⟨_, cs.get (i := 9) rfl⟩, rfl, ?_⟩⟩))))
 have cs1 := cs.set (i := 9) (by show 9 < 12; decide) (sV line)
 have gr1 := gr.cellA (L + 1 + 9) (sV line)
 generalize ((H3.aC (L + 1 + 9) (sV line)) : Hp) = H4 at cs1 gr1
 clear cs gr
 -- what cannot be reached
 obtain ⟨gs, hi, hk, g2, g3, g4⟩ := G.ic k.h1 k.h2 k.h3
 have okS : Ok (F.svd (zbe 145 F.c.saved)) 20 := ok.svd fun p hp ⟨es, ep, e⟩ => by
  rw [hS, List.mem_singleton] at hp; subst hp; cases e
 have hsN : st ∈ kys t.tN := (G.N1 st).mpr (.inl G.st)
 have hFU : ∀ {Q : V -> Loc -> Hp -> Prop}, (∀ S' : Str -> Bool, (∀ x, S' x = true ↔ Rc gs st x) -> Q (.list (((kys t.tN).filter fun k => !S' k).map .str)) (LQ a2 (some (.ref g.g)) a9 a12 (some (.str st)) (some (.list (dueV names heads (rus pd)))) none none) H4) -> zq1 F (zbe 145 F.c.saved) (.ref 148) [.ref g.g] (LQ a2 (some (.ref g.g)) a9 a12 (some (.str st)) (some (.list (dueV names heads (rus pd)))) none none) H4 Q := fun q => zs6 (m := 14) ok W N (by rw [hS]; exact .head _) hne gr1 hi (Nat.le_trans k.ks (by decide)) (by decide) hsN (by rw [G.ps]; rfl) G.f0p q
 refine zok (zt4 (zla (zna (goE (eBi ok W hF rfl rfl (by boot_by_name) (by decide)) (zoj (goE (eLoc ok hF rfl rfl) (zhq (f := 148) ok W gr1 (by decide) (zaf ⟨zc9 ok W, hFU fun S' hS' => ⟨zcq okS, zey rfl ?_ fun ss1 p1 s1 => ?_⟩⟩))))))))
 ·have := zbp (m := names) G.kN fun s hs => (G.nmI k.h1 k.h2 k.hn s).mp hs
  exact Nat.lt_of_le_of_lt (List.length_filter_le _ _) (Nat.lt_of_le_of_lt this (Nat.lt_of_le_of_lt hnl (by decide)))
 have hF' : zah (F.svd (zbe 145 F.c.saved)) (zaw P) (zc8 L) := hF
 have W' : Wd (K P) (F.svd (zbe 145 F.c.saved)).c.base := W
 have hB := zvi G k.h1 k.h2 k.hn g2 hS' hline
 generalize F.svd (zbe 145 F.c.saved) = F' at okS hF' W'
 refine zov okS W' hF' rfl rfl (eFlt okS hF' [("line", L + 1 + 9)] (zam okS hF' rfl rfl (cs1.get (i := 8) rfl)) rfl (Nat.le_trans hnl (by decide)) rfl rfl (fun J => rfl) rfl (cs1.get (i := 9) rfl) rfl (zds hF' rfl) rfl) rfl (Nat.lt_of_le_of_lt (List.length_filter_le _ _) (Nat.lt_of_le_of_lt hnl (by decide))) fun ss2 p2 s2 => zd5 okS s1 s2 (p1.trans (hB.trans p2.symm)) ⟨(fun h => absurd h Bool.false_ne_true), fun J => zab ?_⟩
 exact lwY (okS.le (by decide)) W' hF' gr1 cs1 k
end
section
variable {P : Params} {F : Fx} {n : Nat} {loc : Loc} {H : Hp}
structure Nm (done : List Ru) (more ns : List Str) : Prop where
 nd : ns.Nodup
 nm : ∀ s, s ∈ ns ↔ s ∈ abcd ∧ ((∃ r ∈ done, s = r.1 ∨ s ∈ r.2.1) ∨ s ∈ more)
theorem Nm.add {done : List Ru} {more ns : List Str} {x : Str} (h : Nm done more ns) (hx : x ∈ abcd ∧ x ∉ ns) : Nm done (more ++ [x]) (ns ++ [x]) where
 nd := by
  rw [List.nodup_append]
  exact ⟨h.nd, by simp, fun a ha b hb => by simp at hb; subst hb; exact fun z => hx.2 (z ▸ ha)⟩
 nm := fun s => by
  rw [List.mem_append, h.nm, List.mem_append, List.mem_singleton]
  constructor
  ·rintro (⟨h1, h2⟩ | rfl)
   ·exact ⟨h1, h2.imp id .inl⟩
   ·exact ⟨hx.1, .inr (.inr rfl)⟩
  ·rintro ⟨h1, h2 | h2 | rfl⟩
   ·exact .inl ⟨h1, .inl h2⟩
   ·exact .inl ⟨h1, .inr h2⟩
   ·exact .inr rfl
theorem Nm.skip {done : List Ru} {more ns : List Str} {x : Str} (h : Nm done more ns) (hx : ¬ (x ∈ abcd ∧ x ∉ ns)) : Nm done (more ++ [x]) ns where
 nd := h.nd
 nm := fun s => by
  rw [h.nm, List.mem_append, List.mem_singleton]
  refine and_congr_right fun h1 => ⟨fun z => z.imp id .inl, ?_⟩
  rintro (z | z | rfl)
  ·exact .inl z
  ·exact .inr z
  ·have h2 : s ∈ ns := Classical.byContradiction fun z => hx ⟨h1, z⟩
   exact ((h.nm s).mp h2).2
theorem Nm.next {done : List Ru} {ns : List Str} {r : Ru} (h : Nm done (r.1 :: r.2.1) ns) : Nm (done ++ [r]) [] ns where
 nd := h.nd
 nm := fun s => by
  rw [h.nm]
  refine and_congr_right fun J => ⟨?_, ?_⟩
  ·rintro (⟨r', hr, z⟩ | z)
   ·exact .inl ⟨r', List.mem_append_left _ hr, z⟩
   ·exact .inl ⟨r, by simp, List.mem_cons.mp z⟩
  ·rintro (⟨r', hr, z⟩ | z)
   ·rcases List.mem_append.mp hr with hr | hr
    ·exact .inl ⟨r', hr, z⟩
    ·rw [List.mem_singleton] at hr; subst hr; exact .inr (List.mem_cons.mpr z)
   ·cases z
structure Hd (done : List Ru) (hs : List Str) : Prop where
 nd : hs.Nodup
 hd : ∀ s, s ∈ hs ↔ ∃ r ∈ done, r.1 = s
theorem Hd.add {done : List Ru} {hs : List Str} {r : Ru} (h : Hd done hs) (hr : r.1 ∉ hs) : Hd (done ++ [r]) (hs ++ [r.1]) where
 nd := by
  rw [List.nodup_append]
  exact ⟨h.nd, by simp, fun a ha b hb => by simp at hb; subst hb; exact fun z => hr (z ▸ ha)⟩
 hd := fun s => by
  rw [List.mem_append, h.hd, List.mem_singleton]
  constructor
  ·rintro (⟨r', h1, h2⟩ | rfl)
   ·exact ⟨r', List.mem_append_left _ h1, h2⟩
   ·exact ⟨r, by simp, rfl⟩
  ·rintro ⟨r', h1, h2⟩
   rcases List.mem_append.mp h1 with h1 | h1
   ·exact .inl ⟨r', h1, h2⟩
   ·rw [List.mem_singleton] at h1; subst h1; exact .inr h2.symm
theorem Hd.skip {done : List Ru} {hs : List Str} {r : Ru} (h : Hd done hs) (hr : r.1 ∈ hs) : Hd (done ++ [r]) hs where
 nd := h.nd
 hd := fun s => by
  rw [h.hd]
  constructor
  ·rintro ⟨r', h1, h2⟩; exact ⟨r', List.mem_append_left _ h1, h2⟩
  ·rintro ⟨r', h1, h2⟩
   rcases List.mem_append.mp h1 with h1 | h1
   ·exact ⟨r', h1, h2⟩
   ·rw [List.mem_singleton] at h1; subst h1
    exact (h.hd s).mp (h2 ▸ hr)
theorem Hd.len {done : List Ru} {hs : List Str} (h : Hd done hs) (h1 : ∀ r ∈ done, r.1 ∈ abcd) : hs.length ≤ 4 := zbp (m := abcd) h.nd fun s hs => by
 obtain ⟨r, hr, e⟩ := (h.hd s).mp hs
 exact e ▸ h1 r hr
theorem Nm.len {done : List Ru} {more ns : List Str} (h : Nm done more ns) : ns.length ≤ 4 := zbp (m := abcd) h.nd fun s hs => ((h.nm s).mp hs).1
theorem hnOk {rules : List Ru} {hs ns : List Str} (h : Hd rules hs) (k : Nm rules [] ns) : HnOk rules hs ns := ⟨h.nd, h.hd, k.nd, fun s => by rw [k.nm]; simp⟩
structure Kr (pr : Prs) (pd : Pd) : Prop where
 r0 : 0 < pd.length
 rl : pd.length ≤ 7
 pl : pr.length ≤ 6
 pn : (pr.map (·.1)).Nodup
 pw : ∀ p ∈ pr, p.1 ∈ zca
 h1 : ∀ r ∈ rus pd, r.1 ∈ abcd
 h2 : ∀ r ∈ rus pd, ∀ s ∈ r.2.1, s ∈ zaz
 h3 : ∀ r ∈ rus pd, r.2.1.length ≤ 3
inductive W1 (L : Nat) (g : GA) (t : GT) (pr : Prs) (pd : Pd) (m : Int) (c0 : Option V) (c1 : Option V) (c9 : Option V) (c10 : Option V) (c11 : Option V) (a13 : Option V) (a14 : Option V) (ah : Addr) (an : Addr) (l : Loc) (H' : Hp) : Prop
 | mk (c5 : Option V) (c6 : Option V) (a9 : Option V) (a12 : Option V) (hs : List Str) (ns : List Str) (_ : (Hd (rus pd) hs ∧ Nm (rus pd) [] ns)) (_ : Gr H' g t) (_ : zba H' L (CO c0 c1 (sV (pr.map (·.1))) (sV (pr.map (·.2.1))) (rV (rus pd)) c5 c6 (some (.ref ah)) (some (.ref an)) c9 c10 c11)) (_ : H'.L ah = some (hs.map .str)) (_ : H'.L an = some (ns.map .str)) (_ : l = LQ (some (.int m)) (some (.ref g.g)) a9 a12 a13 a14 none none) : W1 L g t pr pd m c0 c1 c9 c10 c11 a13 a14 ah an l H'
inductive W2 (L : Nat) (g : GA) (t : GT) (pr : Prs) (pd : Pd) (m : Int) (c0 : Option V) (c1 : Option V) (c9 : Option V) (c10 : Option V) (c11 : Option V) (a13 : Option V) (a14 : Option V) (ah : Addr) (an : Addr) (i : Nat) (l : Loc) (H' : Hp) : Prop
 | mk (c5 : Option V) (c6 : Option V) (a9 : Option V) (a12 : Option V) (hs : List Str) (ns : List Str) (_ : (Hd ((rus pd).take i) hs ∧ Nm ((rus pd).take i) [] ns)) (_ : Gr H' g t) (_ : zba H' L (CO c0 c1 (sV (pr.map (·.1))) (sV (pr.map (·.2.1))) (rV (rus pd)) c5 c6 (some (.ref ah)) (some (.ref an)) c9 c10 c11)) (_ : H'.L ah = some (hs.map .str)) (_ : H'.L an = some (ns.map .str)) (_ : l = LQ (some (.int m)) (some (.ref g.g)) a9 a12 a13 a14 none none) : W2 L g t pr pd m c0 c1 c9 c10 c11 a13 a14 ah an i l H'
inductive W3 (L : Nat) (g : GA) (t : GT) (pr : Prs) (pd : Pd) (m : Int) (c0 : Option V) (c1 : Option V) (c9 : Option V) (c10 : Option V) (c11 : Option V) (a13 : Option V) (a14 : Option V) (ah : Addr) (an : Addr) (i : Nat) (a12 : Option V) (ns : List Str) (r : Ru) (l : Loc) (H' : Hp) : Prop
 | mk (hs' : List Str) (_ : Hd ((rus pd).take (i + 1)) hs') (_ : Gr H' g t) (_ : zba H' L (CO c0 c1 (sV (pr.map (·.1))) (sV (pr.map (·.2.1))) (rV (rus pd)) (some (.str r.1)) (sV r.2.1) (some (.ref ah)) (some (.ref an)) c9 c10 c11)) (_ : H'.L ah = some (hs'.map .str)) (_ : H'.L an = some (ns.map .str)) (_ : l = LQ (some (.int m)) (some (.ref g.g)) (some (.str r.2.2)) a12 a13 a14 none none) : W3 L g t pr pd m c0 c1 c9 c10 c11 a13 a14 ah an i a12 ns r l H'
inductive W4 (L : Nat) (g : GA) (t : GT) (pr : Prs) (pd : Pd) (m : Int) (c0 : Option V) (c1 : Option V) (c9 : Option V) (c10 : Option V) (c11 : Option V) (a13 : Option V) (a14 : Option V) (ah : Addr) (an : Addr) (i : Nat) (r : Ru) (hs' : List Str) (j : Nat) (l : Loc) (H' : Hp) : Prop
 | mk (a12 : Option V) (ns : List Str) (_ : Nm ((rus pd).take i) ((r.1 :: r.2.1).take j) ns) (_ : Gr H' g t) (_ : zba H' L (CO c0 c1 (sV (pr.map (·.1))) (sV (pr.map (·.2.1))) (rV (rus pd)) (some (.str r.1)) (sV r.2.1) (some (.ref ah)) (some (.ref an)) c9 c10 c11)) (_ : H'.L ah = some (hs'.map .str)) (_ : H'.L an = some (ns.map .str)) (_ : l = LQ (some (.int m)) (some (.ref g.g)) (some (.str r.2.2)) a12 a13 a14 none none) : W4 L g t pr pd m c0 c1 c9 c10 c11 a13 a14 ah an i r hs' j l H'
inductive W6 (L : Nat) (g : GA) (pr : Prs) (pd : Pd) (m : Int) (c0 : Option V) (c1 : Option V) (c9 : Option V) (c10 : Option V) (c11 : Option V) (a14 : Option V) (c5 : Option V) (c6 : Option V) (a9 : Option V) (a12 : Option V) (heads : List Str) (names : List Str) (l : Loc) (H' : Hp) : Prop
 | mk (t' : GT) (st : Str) (f0 : List (Str × V)) (_ : Gz t' pr pd st f0) (_ : Gr H' g t') (_ : zba H' L (CO c0 c1 (sV (pr.map (·.1))) (sV (pr.map (·.2.1))) (rV (rus pd)) c5 c6 (sV heads) (sV names) c9 c10 c11)) (_ : l = LQ (some (.int m)) (some (.ref g.g)) a9 a12 (some (.str st)) a14 none none) : W6 L g pr pd m c0 c1 c9 c10 c11 a14 c5 c6 a9 a12 heads names l H'
theorem lwW (ok : Ok F 20) (W : Wd (K P) F.c.base) (N : Nest F.c.base 147 145) (hS : F.c.saved = [(145, zf3 #[])]) (hne : F.L ≠ 145) {L : Nat} (hF : zah F (zaw P) (zc8 L)) {g : GA} {t : GT} {pr : Prs} {pd : Pd} {m : Int} (gr : Gr H g t) (G : Gq t pr pd) {c0 c1 c5 c6 c7 c8 c9 c10 c11 : Option V}
  (cs : zba H L (CO c0 c1 (sV (pr.map (·.1))) (sV (pr.map (·.2.1))) (rV (rus pd)) c5 c6 c7 c8 c9 c10 c11)) (k : Kr pr pd) {a9 a12 a13 a14 : Option V} :
  WSsx F (zbe 145 F.c.saved) ((zf5 P).drop 7) (LQ (some (.int m)) (some (.ref g.g)) a9 a12 a13 a14 none none) H (fun fl J J => fl = .ret (.bool true)) := by
 have hlr : (rus pd).length = pd.length := by unfold rus; rw [List.length_map]
 have hrl := k.rl
 -- two lists
 refine zcl (zho ok hF rfl rfl (za9 (zaf ⟨by simp, fun ah hah => ⟨⟨_, (cs.newL hah []).get (i := 7) rfl⟩, rfl, ?_⟩⟩)))
 have hahf := gr.freshL hah
 have cs1 := (cs.newL hah []).set (i := 7) (by show 7 < 12; decide) (some (.ref ah))
 have gr1 := (gr.upL hah []).cellA (L + 1 + 7) (some (.ref ah))
 have e1 : (((H.aL ah []).aC (L + 1 + 7) (some (.ref ah))) : Hp).L ah = some [] := zac _ _ _
 refine zc4 (loc' := LQ (some (.int m)) (some (.ref g.g)) a9 a12 a13 a14 none none) (H' := ((H.aL ah []).aC (L + 1 + 7) (some (.ref ah)))) ?_ (zap.refl _) (Hp.Sub.refl _)
 generalize (((H.aL ah []).aC (L + 1 + 7) (some (.ref ah))) : Hp) = H1 at cs1 gr1 e1
 clear cs gr hah
 refine zcl (zho ok hF rfl rfl (za9 (zaf ⟨by simp, fun an han => ⟨⟨_, (cs1.newL han []).get (i := 8) rfl⟩, rfl, ?_⟩⟩)))
 have hanf := gr1.freshL han
 have hne2 : ah ≠ an := han.neL e1
 have cs2 := (cs1.newL han []).set (i := 8) (by show 8 < 12; decide) (some (.ref an))
 have gr2 := (gr1.upL han []).cellA (L + 1 + 8) (some (.ref an))
 have e2 : (((H1.aL an []).aC (L + 1 + 8) (some (.ref an))) : Hp).L ah = some [] := (zak hne2).trans e1
 have e3 : (((H1.aL an []).aC (L + 1 + 8) (some (.ref an))) : Hp).L an = some [] := zac _ _ _
 refine zc4 (loc' := LQ (some (.int m)) (some (.ref g.g)) a9 a12 a13 a14 none none) (H' := ((H1.aL an []).aC (L + 1 + 8) (some (.ref an)))) ?_ (zap.refl _) (Hp.Sub.refl _)
 generalize (((H1.aL an []).aC (L + 1 + 8) (some (.ref an))) : Hp) = H2 at cs2 gr2 e2 e3
 clear cs1 gr1 e1 han
 refine zcz (W1 L g t pr pd m c0 c1 c9 c10 c11 a13 a14 ah an) (fun Q1 b1 => zne (zam ok hF rfl rfl (cs2.get (i := 4) rfl)) rfl ?_) ?_
 ·refine za3 (fun i => zau i) (rus pd).length (W2 L g t pr pd m c0 c1 c9 c10 c11 a13 a14 ah an) ⟨c5, c6, a9, a12, [], [], ⟨⟨List.nodup_nil, by simp⟩, ⟨List.nodup_nil, by simp⟩⟩, gr2, cs2, e2, e3, rfl⟩ ?_ ?_
  ·rintro i Q2 b2 l H' hi ⟨c5, c6, a9, a12, hs, ns, ⟨hh, hnm⟩, gr3, cs3, e4, e5, rfl⟩
   have ok1 := ok.inl
   have htk : (rus pd).take (i + 1) = (rus pd).take i ++ [(rus pd)[i]] := zao hi
   have hxj : ((rus pd).map ru3)[i]? = some (ru3 (rus pd)[i]) := by rw [List.getElem?_map, List.getElem?_eq_getElem hi]; rfl
   have hb3 := k.h3 _ (List.getElem_mem hi)
   have hhl := hh.len fun r hr => k.h1 r (List.mem_of_mem_take hr)
   generalize (rus pd)[i] = r at htk hxj hb3
   have cs4 := cs3.set (i := 5) (by show 5 < 12; decide) (some (.str r.1))
   have gr4 := gr3.cellA (L + 1 + 5) (some (.str r.1))
   have cs5 := cs4.set (i := 6) (by show 6 < 12; decide) (sV r.2.1)
   have gr5 := gr4.cellA (L + 1 + 6) (sV r.2.1)
   refine ⟨.tup [.str r.1, .list (r.2.1.map .str), .str r.2.2], zbh rfl hxj, zbg ok1 rfl (zfv ok1 hF rfl rfl (cs3.get (i := 5) rfl) (zfv ok1 hF rfl rfl (cs4.get (i := 6) rfl) (tLoc ok1 hF rfl ?_)))⟩
   have e6 : ((((H'.aC (L + 1 + 5) (some (.str r.1))) : Hp).aC (L + 1 + 6) (sV r.2.1)) : Hp).L ah = some (hs.map .str) := e4
   have e7 : ((((H'.aC (L + 1 + 5) (some (.str r.1))) : Hp).aC (L + 1 + 6) (sV r.2.1)) : Hp).L an = some (ns.map .str) := e5
   generalize ((((H'.aC (L + 1 + 5) (some (.str r.1))) : Hp).aC (L + 1 + 6) (sV r.2.1)) : Hp) = H3 at cs5 gr5 e6 e7
   clear cs4 gr4 cs3 gr3 e4 e5
   -- the head
   refine za0 (W3 L g t pr pd m c0 c1 c9 c10 c11 a13 a14 ah an i a12 ns r) (fun Q3 b3 => sIf (bCmp (zam ok1 hF rfl rfl (cs5.get (i := 5) rfl)) (zam ok1 hF rfl rfl (cs5.get (i := 7) rfl)) (zge ok1 e6)) (fun hb => ?_) (fun hb => ?_)) ?_
   ·have hb := of_decide_eq_true hb
    refine zaa (sApp ok1 (zam ok1 hF rfl rfl (cs5.get (i := 7) rfl)) e6 (zam ok1 hF rfl rfl (cs5.get (i := 5) rfl)) (by rw [List.length_map]; exact Nat.le_trans hhl (by decide)) (zab (b3.n ⟨hs ++ [r.1], ?_, gr5.keepL hahf _, cs5.setL e6 _, ?_, ?_, rfl⟩)))
    ·rw [htk]; exact hh.add hb
    ·refine (zac _ _ _).trans ?_
     rw [List.map_append]; rfl
    ·exact (zak hne2.symm).trans e7
   ·have hb : r.1 ∈ hs := Classical.not_not.mp (of_decide_eq_false hb)
    exact zab (b3.n ⟨hs, by rw [htk]; exact hh.skip hb, gr5, cs5, e6, e7, rfl⟩)
   clear cs5 gr5 e6 e7
   rintro l H4 ⟨hs', hh', gr6, cs6, e6, e7, rfl⟩
   -- the signs
   have hlen : ((V.str r.1 :: r.2.1.map V.str)).length = (r.1 :: r.2.1).length := by simp
   have hnd : Nm ((rus pd).take i) ((r.1 :: r.2.1).take 0) ns := by simpa using hnm
   refine zaa (zne (znd (zeo (zaj (zam ok1 hF rfl rfl (cs6.get (i := 5) rfl)) eNil)) (zam ok1 hF rfl rfl (cs6.get (i := 6) rfl)) rfl rfl (by rw [List.length_map]; exact Nat.le_trans (Nat.add_le_add (Nat.le_refl 1) hb3) (by decide))) rfl ?_)
   refine za3 (fun i => zau i) (r.1 :: r.2.1).length (W4 L g t pr pd m c0 c1 c9 c10 c11 a13 a14 ah an i r hs') ⟨a12, ns, hnd, gr6, cs6, e6, e7, rfl⟩ ?_ ?_
   ·rintro j Q5 b5 l H' hj ⟨a12, ns, hnm, gr7, cs7, e8, e9, rfl⟩
    have ok2 := ok1.inl
    have htk2 : (r.1 :: r.2.1).take (j + 1) = (r.1 :: r.2.1).take j ++ [(r.1 :: r.2.1)[j]] := zao hj
    have hxs : ([V.str r.1] ++ r.2.1.map V.str)[j]? = some (.str (r.1 :: r.2.1)[j]) := by
     show ((r.1 :: r.2.1).map V.str)[j]? = _
     rw [List.getElem?_map, List.getElem?_eq_getElem hj]; rfl
    have hnl := hnm.len
    generalize (r.1 :: r.2.1)[j] = x at htk2 hxs
    refine ⟨.str x, zbh rfl hxs, tLoc ok2 hF rfl ?_⟩
    refine zaa (sIf (bAnd (bCmp (eLoc ok2 hF rfl rfl) (zeo (zaj eStr (zaj eStr (zaj eStr (zaj eStr eNil))))) (kIn (l := abcd) ok2 rfl)) (fun J => bCmp (eLoc ok2 hF rfl rfl) (zam ok2 hF rfl rfl (cs7.get (i := 8) rfl)) (zge ok2 e9))) (fun hb => ?_) (fun hb => ?_))
    ·have hb : x ∈ abcd ∧ x ∉ ns := by rwa [Bool.and_eq_true, decide_eq_true_iff, decide_eq_true_iff] at hb
     refine zaa (sApp ok2 (zam ok2 hF rfl rfl (cs7.get (i := 8) rfl)) e9 (eLoc ok2 hF rfl rfl) (by rw [List.length_map]; exact Nat.le_trans hnl (by decide)) (zab (zab (b5.n ⟨_, ns ++ [x], ?_, gr7.keepL hanf _, cs7.setL e9 _, ?_, ?_, rfl⟩))))
     ·rw [htk2]; exact hnm.add hb
     ·exact (zak hne2).trans e8
     ·refine (zac _ _ _).trans ?_
      rw [List.map_append]; rfl
    ·have hb : ¬ (x ∈ abcd ∧ x ∉ ns) := fun z => by
      rw [decide_eq_true z.1, decide_eq_true z.2] at hb; cases hb
     exact zab (zab (b5.n ⟨_, ns, by rw [htk2]; exact hnm.skip hb, gr7, cs7, e8, e9, rfl⟩))
   ·rintro l H' ⟨a12, ns, hnm, gr7, cs7, e8, e9, rfl⟩
    rw [List.take_length] at hnm
    refine ⟨zan (ok1.handled (Nat.succ_ne_zero _)) rfl (by simp), zab (zab (b2.n ⟨_, _, _, _, hs', ns, ⟨hh', ?_⟩, gr7, cs7, e8, e9, rfl⟩))⟩
    rw [htk]; exact hnm.next
  ·rintro l H' ⟨c5, c6, a9, a12, hs, ns, ⟨hh, hnm⟩, gr3, cs3, e4, e5, rfl⟩
   rw [List.take_length] at hh hnm
   exact ⟨zan (ok.handled (Nat.succ_ne_zero _)) rfl (by rw [List.length_map]; exact Nat.le_refl _), zab (b1.n ⟨c5, c6, a9, a12, hs, ns, ⟨hh, hnm⟩, gr3, cs3, e4, e5, rfl⟩)⟩
 clear cs2 gr2 e2 e3
 rintro l H5 ⟨c5, c6, a9, a12, heads, names, ⟨hh, hnm⟩, gr, cs, e1, e2, rfl⟩
 have hn := hnOk hh hnm
 clear hh hnm
 refine zfe (cs.get (i := 7) rfl) e1 ?_
 have cs1 := (cs.unL ah).set (i := 7) (by show 7 < 12; decide) (sV heads)
 have gr1 := (gr.unL hahf).cellA (L + 1 + 7) (sV heads)
 have e3 : (((H5.uL ah).aC (L + 1 + 7) (sV heads)) : Hp).L an = some (names.map .str) := (zhm hne2.symm).trans e2
 generalize (((H5.uL ah).aC (L + 1 + 7) (sV heads)) : Hp) = H6 at cs1 gr1 e3
 clear cs gr e1 e2
 refine zfe (cs1.get (i := 8) rfl) e3 ?_
 have cs := (cs1.unL an).set (i := 8) (by show 8 < 12; decide) (sV names)
 have gr := (gr1.unL hanf).cellA (L + 1 + 8) (sV names)
 generalize (((H6.uL an).aC (L + 1 + 8) (sV names)) : Hp) = H7 at cs gr
 clear cs1 gr1 e3
 -- the start
 have hrm : ((rus pd).map ru3).length = pd.length := by rw [List.length_map, hlr]
 obtain ⟨kk, hkk, hkl⟩ := zhe (m / 192) pd.length k.r0
 have hat : ∀ j (hj : j < pd.length), ((rus pd).map ru3)[j]? = some (ru3 pd[j].1) := fun j hj => by
  unfold rus
  rw [List.getElem?_map, List.getElem?_map, List.getElem?_eq_getElem hj]; rfl
 have hrl2 : ((rus pd).map ru3).length ≤ 1000000 := by rw [hrm]; exact Nat.le_trans k.rl (by decide)
 have er := cs.get (i := 4) rfl
 refine zcl (sA ok hF rfl (eSub (eSub (zam ok hF rfl rfl er) (eBin (eBin (eLoc ok hF rfl rfl) eInt (fun J q => zfp (by decide) (by decide) q)) (eLen ok W hF rfl rfl (zam ok hF rfl rfl er) rfl hrm (Nat.le_trans k.rl (by decide))) (fun J q => zel (Int.natCast_pos.mpr k.r0) q)) (hkk ▸ zfz rfl (hat kk hkl) hrl2)) eInt (uTup rfl)) ⟨rfl, ?_⟩)
 have nget : ∀ st, (∃ p ∈ pd, p.1.1 = st) -> ∃ a xs, tget t.tN st = some (a, xs) ∧ xs.length ≤ 1000 := fun st hst => by
  have h1 : st ∈ kys t.tN := (G.N1 st).mpr (.inl hst)
  rw [← zal, ← zdg, zfh, Option.isSome_map] at h1
  obtain ⟨⟨a, xs⟩, h2⟩ := Option.isSome_iff_exists.mp h1
  have h3 := G.lN _ (zcv (zbk h2))
  dsimp only at h3
  exact ⟨a, xs, h2, by lia⟩
 have hpl : t.ps.length = pd.length + 1 := by rw [G.ps]; simp [psV]
 have sl : ∀ st, (∃ p ∈ pd, p.1.1 = st) -> st.length ≤ 1000 ∧ st.length ≠ 0 := fun st ⟨p, hp, e⟩ => by
  have key : ∀ s ∈ abcd, s.length ≤ 1000 ∧ s.length ≠ 0 := by decide +kernel
  exact key st (e ▸ k.h1 p.1 (List.mem_map.mpr ⟨p, hp, rfl⟩))
 refine zcz (W6 L g pr pd m c0 c1 c9 c10 c11 a14 c5 c6 a9 a12 heads names) (fun Q6 b6 => sIf (bCmp (eBin (eLoc ok hF rfl rfl) eInt (fun J q => zel (by decide) q)) eInt kEqi) (fun h => ?_) (fun h => ?_)) ?_
 ·have hst : ∃ p ∈ pd, p.1.1 = (pd[0]'k.r0).1.1 := ⟨_, List.getElem_mem k.r0, rfl⟩
  obtain ⟨a, xs, hN, hx⟩ := nget _ hst
  have h1 : ∃ fs, t.ps[1]? = some (.inst 68 fs) ∧ dget fs "name" = some (.str (pd[0]'k.r0).1.1) := by
   refine ⟨(pd[0]'k.r0).2, ?_, (G.fl _ (List.getElem_mem k.r0)).1⟩
   rw [G.ps]
   show (psV (pd.map rsE))[0]? = _
   unfold psV
   rw [List.getElem?_map, List.getElem?_map, List.getElem?_eq_getElem k.r0]; rfl
  refine zaa (sA ok hF rfl (eSub (eSub (zam ok hF rfl rfl er) eInt (zfz (j := 0) rfl (hat 0 k.r0) hrl2)) eInt (uTup rfl)) ?_)
  exact zaa (znf ok (eLoc ok hF rfl rfl) (fun J q => zhq (f := 143) ok W gr (by decide) q) eNil (zc9 ok W) (zbv (zqm ok W gr h1 (sl _ hst).1 hN hx (by rw [hpl]; exact Nat.succ_pos _) (by rw [hpl]; exact Nat.le_trans (Nat.succ_le_succ k.rl) (by decide)) fun H' fs hp gr' ex => zab (b6.n ⟨_, _, fs, G.start gr gr' k.rl hst hN hp rfl, gr', cs.extd ex fun c ov h => h.foot gr, rfl⟩))))
 ·have hst : ∃ p ∈ pd, p.1.1 = pd[kk].1.1 := ⟨_, List.getElem_mem hkl, rfl⟩
  obtain ⟨a, xs, hN, hx⟩ := nget _ hst
  exact zaa (znf ok (eLoc ok hF rfl rfl) (fun J q => zhq (f := 143) ok W gr (by decide) q) (zaj (eLoc ok hF rfl rfl) eNil) (zc9 ok W) (zbv (zsx ok W gr (sl _ hst).2 (sl _ hst).1 hN hx (by rw [hpl]; exact Nat.succ_pos _) (by rw [hpl]; exact Nat.le_trans (Nat.succ_le_succ k.rl) (by decide)) fun H' fs hp gr' ex => zab (b6.n ⟨_, _, fs, G.start gr gr' k.rl hst hN hp rfl, gr', cs.extd ex fun c ov h => h.foot gr, rfl⟩))))
 rintro l H8 ⟨t', st, f0, Gz', gr', cs', rfl⟩
 exact lwX ok W N hS hne hF gr' cs' ⟨Gz', k.rl, k.pl, k.pn, k.pw, k.h1, k.h2, k.h3, hn⟩
end
section
variable {P : Params} {F : Fx} {n : Nat} {loc : Loc} {H : Hp}
theorem zh9 : ∀ s ∈ zaz ++ zca, zlo s := by
 intro s hs
 have hx : zlo "x" := ⟨by decide +kernel, 120, by decide +kernel, by decide +kernel, by decide +kernel⟩
 have hy : zlo "y" := ⟨by decide +kernel, 121, by decide +kernel, by decide +kernel, by decide +kernel⟩
 rcases List.mem_append.mp hs with hs | hs
 ·rcases List.mem_cons.mp hs with rfl | hs
  ·exact hx
  rcases List.mem_cons.mp hs with rfl | hs
  ·exact hy
  rcases List.mem_cons.mp hs with rfl | hs
  ·exact ⟨by decide +kernel, 122, by decide +kernel, by decide +kernel, by decide +kernel⟩
  rcases List.mem_cons.mp hs with rfl | hs
  ·exact ⟨by decide +kernel, 101, by decide +kernel, by decide +kernel, by decide +kernel⟩
  rcases List.mem_cons.mp hs with rfl | hs
  ·exact ⟨by decide +kernel, 65, by decide +kernel, by decide +kernel, by decide +kernel⟩
  rcases List.mem_cons.mp hs with rfl | hs
  ·exact ⟨by decide +kernel, 66, by decide +kernel, by decide +kernel, by decide +kernel⟩
  rcases List.mem_cons.mp hs with rfl | hs
  ·exact ⟨by decide +kernel, 67, by decide +kernel, by decide +kernel, by decide +kernel⟩
  rcases List.mem_cons.mp hs with rfl | hs
  ·exact ⟨by decide +kernel, 68, by decide +kernel, by decide +kernel, by decide +kernel⟩
  cases hs
 ·rcases List.mem_cons.mp hs with rfl | hs
  ·exact hx
  rcases List.mem_cons.mp hs with rfl | hs
  ·exact ⟨by decide +kernel, 112, by decide +kernel, by decide +kernel, by decide +kernel⟩
  rcases List.mem_cons.mp hs with rfl | hs
  ·exact ⟨by decide +kernel, 113, by decide +kernel, by decide +kernel, by decide +kernel⟩
  rcases List.mem_cons.mp hs with rfl | hs
  ·exact hy
  rcases List.mem_cons.mp hs with rfl | hs
  ·exact ⟨by decide +kernel, 114, by decide +kernel, by decide +kernel, by decide +kernel⟩
  rcases List.mem_cons.mp hs with rfl | hs
  ·exact ⟨by decide +kernel, 115, by decide +kernel, by decide +kernel, by decide +kernel⟩
  cases hs
structure PrI (i : Nat) (pr : Prs) : Prop where
 len : pr.length ≤ i
 sub : ∀ p ∈ pr, p.1 ∈ zca.take i
 nd : (pr.map (·.1)).Nodup
theorem zpa {pr : Prs} {w kd : Str} {l : Int} (h : w ∉ pr.map (·.1)) : dget (prV pr) w = none ∧ dput (prV pr) w (.tup [.str kd, .int l]) = prV (pr ++ [(w, kd, l)]) := by
 have hk : ∀ kv ∈ prV pr, kv.1 ≠ w := fun kv hkv e => by
  obtain ⟨p, hp, rfl⟩ := List.mem_map.mp hkv
  exact h (List.mem_map.mpr ⟨p, hp, e⟩)
 have hany : (prV pr).any (fun kv => decide (kv.1 = w)) = false := List.any_eq_false.mpr fun kv hkv => by simpa using hk kv hkv
 constructor
 ·unfold dget
  rw [List.find?_eq_none.mpr fun kv hkv => by simpa using hk kv hkv]; rfl
 ·unfold dput
  rw [hany]
  unfold prV
  rw [List.map_append]; rfl
theorem ztk {pr : Prs} {w : Str} (h : w ∈ pr.map (·.1)) : ∃ k l, dget (prV pr) w = some (.tup [.str k, .int l]) := by
 obtain ⟨p, hp, e⟩ := List.mem_map.mp h
 have : (prV pr).find? (fun kv => decide (kv.1 = w)) ≠ none := fun z => by
  have := List.find?_eq_none.mp z _ (List.mem_map.mpr ⟨p, hp, rfl⟩)
  exact this (decide_eq_true e)
 obtain ⟨kv, hkv⟩ := Option.ne_none_iff_exists'.mp this
 obtain ⟨q, _, e2⟩ := List.mem_map.mp (List.mem_of_find?_eq_some hkv)
 refine ⟨q.2.1, q.2.2, ?_⟩
 unfold dget
 rw [hkv, ← e2]; rfl
theorem PrI.add {i : Nat} {pr : Prs} (h : PrI i pr) (hi : i < zca.length) {kd : Str} {l : Int} : zca[i] ∉ pr.map (·.1) ∧ PrI (i + 1) (pr ++ [(zca[i], kd, l)]) := by
 have hn : zca[i] ∉ pr.map (·.1) := fun z => by
  obtain ⟨p, hp, e⟩ := List.mem_map.mp z
  exact zeh (by decide +kernel) hi (e ▸ h.sub p hp)
 refine ⟨hn, ⟨by rw [List.length_append]; exact Nat.succ_le_succ h.len, fun p hp => ?_, ?_⟩⟩
 ·rw [zao hi]
  rcases List.mem_append.mp hp with hp | hp
  ·exact List.mem_append_left _ (h.sub p hp)
  ·rw [List.mem_singleton] at hp; subst hp; exact List.mem_append_right _ (.head _)
 ·rw [List.map_append, List.nodup_append]
  exact ⟨h.nd, by simp, fun a ha b hb => by simp at hb; subst hb; exact fun z => hn (z ▸ ha)⟩
theorem PrI.skip {i : Nat} {pr : Prs} (h : PrI i pr) : PrI (i + 1) pr := ⟨Nat.le_succ_of_le h.len, fun p hp => (List.take_subset_take_left _ (Nat.le_succ i)) (h.sub p hp), h.nd⟩
theorem Gq.addPr {t : GT} {pr : Prs} {w kd : Str} {l : Int} (G : Gq t pr []) (h : w ∉ pr.map (·.1)) : Gq { t with pr := dput t.pr w (.tup [.str kd, .int l]) } (pr ++ [(w, kd, l)]) [] :=
 ⟨G.kT, G.hd, G.N1, G.uT, G.uN, G.ps, G.fl, G.gs, G.pm, by show dput t.pr w _ = _; rw [G.pr]; exact (zpa h).2, G.up, G.uz, G.lT, G.lN, G.lR⟩
theorem zvn : ∀ j : Nat, j < 7 -> Builtin.Int.intBits ((j : Int) + 2) ≤ 64 := by decide +kernel
theorem pow6 : ∀ k : Nat, k < 6 -> Builtin.Int.intTooBig (((Builtin.Int.intBits 2 : Nat) : Int) * ((k : Nat) : Int)) = false ∧ (0 : Int) < 2 ^ k ∧ (2 : Int) ^ k < 1000000000 := by decide +kernel
theorem zvo {i : Nat} (hi : i < zca.length) : (zca.map V.str)[i]? = some (.str zca[i]) := by rw [List.getElem?_map, List.getElem?_eq_getElem hi]; rfl
theorem zvp {i : Nat} (hi : i < zfm.length) : (zfm.map V.str)[i]? = some (.str zfm[i]) := by rw [List.getElem?_map, List.getElem?_eq_getElem hi]; rfl
theorem zqw {l : List Str} {s : Str} {xs : List V} (h : mget (l.map fun k => (k, ([] : List V))) s = some xs) : xs = [] := by
 unfold mget at h
 obtain ⟨p, hp, rfl⟩ := Option.map_eq_some_iff.mp h
 obtain ⟨k, _, rfl⟩ := List.mem_map.mp (List.mem_of_find?_eq_some hp)
 rfl
theorem Gq.zero {t : GT} (e1 : tcon t.tT = (toks ++ [Str.ofString "error"]).map (fun k => (k, []))) (e2 : t.tN = []) (e3 : t.tR = []) (e4 : t.ps = [.none]) (e5 : t.pm = []) (e6 : t.pr = []) (e7 : t.ups = (fun J => false, 0)) : Gq t [] [] where
 kT := by rw [← zal, e1]; rfl
 hd := fun J h => nomatch h
 N1 := fun s => by rw [e2]; simp [kys]
 uT := fun s xs h => by
  rw [e1] at h
  rw [zqw h]; simp
 uN := fun s xs h => by rw [e2] at h; cases h
 ps := e4
 fl := fun J h => nomatch h
 gs := ⟨[], by rw [e3]; rfl, fun n => rfl, (fun J h => nomatch h), fun J h => nomatch h⟩
 pm := e5
 pr := e6
 up := fun w J => by rw [e7]; simp
 uz := by rw [e7]; exact Nat.le_refl _
 lT := fun p hp => by
  rw [e1] at hp
  obtain ⟨k, _, rfl⟩ := List.mem_map.mp hp
  exact Nat.le_refl _
 lN := fun p hp => by rw [e2] at hp; cases hp
 lR := fun p hp => by rw [e3] at hp; cases hp
theorem zni {L : Nat} {os : List (Option V)} (h : zba H L os) {x d c : Addr} {kvs : List (Str × V)} (hd : H.Fresh d) : zba ((H.aI x (c, d)).aD d kvs) L os := ⟨fun i o e => by
 have k := h.at_ i o e
 exact ⟨k.C, k.L, (zak (hd.neC k.C)).trans k.D, k.P, k.S⟩⟩
theorem zux {ft : Addr -> Prop} {H H' : Hp} {a : Addr} {xs : List V} (ex : Ext ft H H') (e : H.L a = some xs) (hn : ¬ ft a) : H'.L a = some xs :=
 ((ex a (by unfold Hp.Own; rw [e]; simp)).2 hn).1.trans e
noncomputable def fS (ns : List Int) : V -> Option V
 | .int k => some (.int ((k + 2) * ns[k.toNat]!))
 | _ => none
noncomputable def zia : Option Str -> List Str
 | none => []
 | some w => ["%prec", w]
theorem zpb (syms : List Str) (w : Option Str) : zbf syms w = syms ++ zia w := by
 cases w with
 | none => exact (List.append_nil _).symm
 | some w => rfl
inductive V1 (H : Hp) (l : Loc) (H' : Hp) : Prop
 | mk (m : Int) (_ : l = LQ (some (.int m)) none none none none none none none) (_ : H = H') : V1 H l H'
inductive V2 (L : Nat) (ns : List Int) (m : Int) (l : Loc) (H' : Hp) : Prop
 | mk (g : GA) (t : GT) (_ : Gr H' g t) (_ : Gq t [] []) (_ : zba H' L (CO (some (.list (ns.map .int))) none none none none none none none none none none none)) (_ : l = LQ (some (.int m)) (some (.ref g.g)) none none none none none none) : V2 L ns m l H'
inductive V3 (L : Nat) (ns : List Int) (m : Int) (g : GA) (aw : Addr) (ak : Addr) (l : Loc) (H' : Hp) : Prop
 | mk (c1 : Option V) (t : GT) (pr : Prs) (_ : (PrI 6 pr ∧ Gq t pr [] ∧ ¬ foot g t aw ∧ ¬ foot g t ak)) (_ : Gr H' g t) (_ : zba H' L (CO (some (.list (ns.map .int))) c1 (some (.ref aw)) (some (.ref ak)) none none none none none none none none)) (_ : H'.L aw = some ((pr.map (·.1)).map .str)) (_ : H'.L ak = some ((pr.map (·.2.1)).map .str)) (_ : l = LQ (some (.int m)) (some (.ref g.g)) none none none none none none) : V3 L ns m g aw ak l H'
inductive V4 (L : Nat) (ns : List Int) (m : Int) (g : GA) (aw : Addr) (ak : Addr) (i : Nat) (l : Loc) (H' : Hp) : Prop
 | mk (c1 : Option V) (t : GT) (pr : Prs) (_ : (PrI i pr ∧ Gq t pr [] ∧ ¬ foot g t aw ∧ ¬ foot g t ak)) (_ : Gr H' g t) (_ : zba H' L (CO (some (.list (ns.map .int))) c1 (some (.ref aw)) (some (.ref ak)) none none none none none none none none)) (_ : H'.L aw = some ((pr.map (·.1)).map .str)) (_ : H'.L ak = some ((pr.map (·.2.1)).map .str)) (_ : l = LQ (some (.int m)) (some (.ref g.g)) none none none none none none) : V4 L ns m g aw ak i l H'
inductive V5 (L : Nat) (ns : List Int) (m : Int) (g : GA) (aw : Addr) (ak : Addr) (i : Nat) (t : GT) (pr : Prs) (w : Str) (kd : Str) (l : Loc) (H' : Hp) : Prop
 | mk  (_ : Gr H' g { t with pr := dput t.pr w (.tup [.str kd, .int ((i : Int) + 1)]) }) (_ : zba H' L (CO (some (.list (ns.map .int))) (some (.int (i : Int))) (some (.ref aw)) (some (.ref ak)) none none none none none none none none)) (_ : H'.L aw = some ((pr.map (·.1)).map .str)) (_ : H'.L ak = some ((pr.map (·.2.1)).map .str)) (_ : l = LQ (some (.int m)) (some (.ref g.g)) none none none none none none) : V5 L ns m g aw ak i t pr w kd l H'
inductive V6 (L : Nat) (ns : List Int) (m : Int) (g : GA) (c1 : Option V) (pr : Prs) (rules : List Ru) (l : Loc) (H' : Hp) : Prop
 | mk (c5 : Option V) (c6 : Option V) (a9 : Option V) (t : GT) (pd : Pd) (_ : (rus pd = rules ∧ Gq t pr pd)) (_ : Gr H' g t) (_ : zba H' L (CO (some (.list (ns.map .int))) c1 (sV (pr.map (·.1))) (sV (pr.map (·.2.1))) (rV rules) c5 c6 none none none none none)) (_ : l = LQ (some (.int m)) (some (.ref g.g)) a9 none none none none none) : V6 L ns m g c1 pr rules l H'
inductive V7 (L : Nat) (ns : List Int) (m : Int) (g : GA) (c1 : Option V) (pr : Prs) (rules : List Ru) (i : Nat) (l : Loc) (H' : Hp) : Prop
 | mk (c5 : Option V) (c6 : Option V) (a9 : Option V) (t : GT) (pd : Pd) (_ : (rus pd = rules.take i ∧ Gq t pr pd)) (_ : Gr H' g t) (_ : zba H' L (CO (some (.list (ns.map .int))) c1 (sV (pr.map (·.1))) (sV (pr.map (·.2.1))) (rV rules) c5 c6 none none none none none)) (_ : l = LQ (some (.int m)) (some (.ref g.g)) a9 none none none none none) : V7 L ns m g c1 pr rules i l H'
theorem lwV (ok : Ok F 20) (W : Wd (K P) F.c.base) (N : Nest F.c.base 147 145) (hS : F.c.saved = [(145, zf3 #[])]) (hne : F.L ≠ 145) {L : Nat} (hF : zah F (zaw P) (zc8 L)) (hG : ∀ a, H.G a = none) {ns : List Int} (hz : ns.length ≤ 1000)
  (cs : zba H L (CO (some (.list (ns.map .int))) none none none none none none none none none none none)) :
  WSsx F (zbe 145 F.c.saved) (zf5 P) (LQ none none none none none none none none) H (fun fl J J => fl = .ret (.bool true)) := by
 -- the number
 refine zcz (V1 H) (fun Q1 b1 => sAsg ok hF rfl (zcr (zav (goE (eBi ok W hF rfl rfl (by boot_by_name) (by decide)) (zag (zcy ok [("script", L + 1 + 0)] (.inl rfl) (zds hF rfl) (by decide) rfl (zcf ok rfl) (by decide) (zd1 (goE (eBi ok W hF rfl rfl (by boot_by_name) (by decide)) ⟨rfl, goEs (zaj (eLen ok W hF rfl rfl (eCut (j := 7) (zam ok hF rfl rfl (cs.get (i := 0) rfl)) eInt rfl (za1 hz)) rfl (by rw [← List.map_take]; exact List.length_map _) (Nat.le_trans (List.length_take_le 7 ns) (by decide))) eNil) ?_⟩)))))))) ?_
 ·have hle : (ns.take 7).length ≤ ns.length := by rw [List.length_take]; exact Nat.min_le_right _ _
  have h7 : (ns.take 7).length ≤ 7 := List.length_take_le 7 ns
  refine ⟨(ns.take 7).length, rfl, Nat.lt_of_le_of_lt h7 (by decide), (List.range (ns.take 7).length).map (fun (k : Nat) => V.int k), fS ns, ⟨fun i => zce i, by rw [List.length_map, List.length_range]; exact Nat.le_trans h7 (by decide), fun C sv E okc => ⟨zft, fun j y hy => ?_, zb0 (okc.handled (Nat.succ_ne_zero _)) (by rw [List.length_map, List.length_range]; exact Nat.le_refl _)⟩⟩, zaf ⟨zcq ok, zp4 (ns := (List.range (ns.take 7).length).map fun (k : Nat) => (((k : Int) + 2) * ns[k]!)) (ok.handled (by decide)) ?_ (goE (eBin eInt eInt (fun J q => zrc (k := 9) (by decide) (by decide) (by decide +kernel) q)) (zel (by decide) (b1.n ⟨_, rfl, rfl⟩)))⟩⟩
  ·rw [List.getElem?_map] at hy
   obtain ⟨k', hk', rfl⟩ := Option.map_eq_some_iff.mp hy
   obtain ⟨hj', e⟩ := List.getElem?_eq_some_iff.mp hk'
   rw [List.getElem_range] at e
   rw [List.length_range] at hj'
   subst e
   have hjl := Nat.lt_of_lt_of_le hj' hle
   have hat : (ns.map V.int)[j]? = some (.int ns[j]!) := by
    rw [List.getElem?_map, List.getElem?_eq_getElem hjl, getElem!_pos ns j hjl]; rfl
   exact ⟨zew hj', zqg (fun J q => tLoc okc (zai ok hF) rfl q) (eBin (eBin (eLoc okc (zai ok hF) rfl rfl) eInt (fun J q => zjg q)) (eSub (zam okc (zai ok hF) rfl rfl (cs.get (i := 0) rfl)) (eLoc okc (zai ok hF) rfl rfl) (zfz rfl hat (za1 hz))) (fun J q => zt3 (zvn j (Nat.lt_of_lt_of_le hj' h7)) q)) (by show some _ = some _; rw [Int.toNat_natCast])⟩
  ·refine congrArg some ?_
   rw [List.map_map, List.filterMap_map, ← List.filterMap_eq_map]
   refine zc5 fun j J => ?_
   show some (V.int ((((j : Nat) : Int) + 2) * ns[((j : Int)).toNat]!)) = some (V.int _)
   rw [Int.toNat_natCast]
 rintro l H' ⟨m, rfl, rfl⟩
 -- the grammar
 refine zcz (V2 L ns m) (fun Q2 b2 => sAsg ok hF rfl (zav (goE (zff ok W hF rfl rfl (.ref _)) (goEs (zaj (zmd ok (eBi ok W hF rfl rfl (by boot_by_name) (by decide)) (zff ok W hF rfl rfl (zfg W)) (.inl rfl) (by decide)) eNil) ⟨zc9 ok W, zg7 ok W 106 fun A' x d ok' hx hd hlt => ?_⟩)))) ?_
 ·refine zss (F := { F with A := A' }) (ns := toks) ok' W (zac _ _ _) (zac _ _ _) hG rfl (by decide +kernel) (by decide +kernel) (by simp) fun g t H' eg ed gr e1 e2 e3 e4 e5 e6 e7 e8 e9 e10 ex => ⟨rfl, b2.n ⟨g, t, gr, Gq.zero e1 e2 e3 e4 e5 e8 e9, ?_, by rw [eg]; rfl⟩⟩
  refine (zni cs (x := x) (c := 215) (kvs := []) hd).extd ex fun c ov h e => ?_
  have h2 := h.D
  rw [e] at h2
  have := (zac H.D d []).symm.trans h2
  cases this
 clear cs hG
 rintro l H1 ⟨g, t, gr, G, cs, rfl⟩
 -- two lists
 refine zcl (zho ok hF rfl rfl (za9 (zaf ⟨by simp, fun aw haw => ⟨⟨_, (cs.newL haw []).get (i := 2) rfl⟩, rfl, ?_⟩⟩)))
 have hwf := haw.foot gr
 have cs1 := (cs.newL haw []).set (i := 2) (by show 2 < 12; decide) (some (.ref aw))
 have gr1 := (gr.upL haw []).cellA (L + 1 + 2) (some (.ref aw))
 have e1 : (((H1.aL aw []).aC (L + 1 + 2) (some (.ref aw))) : Hp).L aw = some [] := zac _ _ _
 refine zc4 (loc' := LQ (some (.int m)) (some (.ref g.g)) none none none none none none) (H' := ((H1.aL aw []).aC (L + 1 + 2) (some (.ref aw)))) ?_ (zap.refl _) (Hp.Sub.refl _)
 generalize (((H1.aL aw []).aC (L + 1 + 2) (some (.ref aw))) : Hp) = H2 at cs1 gr1 e1
 clear cs gr haw
 refine zcl (zho ok hF rfl rfl (za9 (zaf ⟨by simp, fun ak hak => ⟨⟨_, (cs1.newL hak []).get (i := 3) rfl⟩, rfl, ?_⟩⟩)))
 have hkf := hak.foot gr1
 have hne2 : aw ≠ ak := hak.neL e1
 have cs2 := (cs1.newL hak []).set (i := 3) (by show 3 < 12; decide) (some (.ref ak))
 have gr2 := (gr1.upL hak []).cellA (L + 1 + 3) (some (.ref ak))
 have e2 : (((H2.aL ak []).aC (L + 1 + 3) (some (.ref ak))) : Hp).L aw = some [] := (zak hne2).trans e1
 have e3 : (((H2.aL ak []).aC (L + 1 + 3) (some (.ref ak))) : Hp).L ak = some [] := zac _ _ _
 refine zc4 (loc' := LQ (some (.int m)) (some (.ref g.g)) none none none none none none) (H' := ((H2.aL ak []).aC (L + 1 + 3) (some (.ref ak)))) ?_ (zap.refl _) (Hp.Sub.refl _)
 generalize (((H2.aL ak []).aC (L + 1 + 3) (some (.ref ak))) : Hp) = H3 at cs2 gr2 e2 e3
 clear cs1 gr1 e1 hak
 -- precedences
 refine zcz (V3 L ns m g aw ak) (fun Q3 b3 => zsn (N := 6) ok W hF rfl rfl eInt (by decide) ?_) ?_
 ·refine za3 (fun i => zce i) 6 (V4 L ns m g aw ak) ⟨none, t, [], ⟨⟨Nat.le_refl _, (fun J h => nomatch h), List.nodup_nil⟩, G, hwf, hkf⟩, gr2, cs2, e2, e3, rfl⟩ ?_ ?_
  ·clear gr2 cs2 e2 e3 hwf hkf G
   rintro i Q4 b4 l H' hi ⟨c1, t, pr, ⟨hp, G, hwf, hkf⟩, gr3, cs3, e2, e3, rfl⟩
   have ok1 := ok.inl
   have hi' : i < zca.length := hi
   have cs4 := cs3.set (i := 1) (by show 1 < 12; decide) (some (.int (i : Int)))
   have gr4 := gr3.cellA (L + 1 + 1) (some (.int (i : Int)))
   refine ⟨_, zew hi, zfv ok1 hF rfl rfl (cs3.get (i := 1) rfl) ?_⟩
   have e4 : ((H'.aC (L + 1 + 1) (some (.int (i : Int)))) : Hp).L aw = some ((pr.map (·.1)).map .str) := e2
   have e5 : ((H'.aC (L + 1 + 1) (some (.int (i : Int)))) : Hp).L ak = some ((pr.map (·.2.1)).map .str) := e3
   generalize ((H'.aC (L + 1 + 1) (some (.int (i : Int)))) : Hp) = H4 at cs4 gr4 e4 e5
   clear cs3 gr3 e2 e3
   obtain ⟨hw1, hw2, hw3⟩ := pow6 i hi
   obtain ⟨kk, hkk, hkl⟩ := zhe (m / 64 + (i : Int)) 3 (by decide)
   have hkk : (m / 64 + (i : Int)) % 3 = (kk : Int) := hkk
   have hkl' : kk < zfm.length := hkl
   have hk3 := zvp hkl'
   have hkm : V.str zfm[kk] ∈ zfm.map V.str := List.mem_map.mpr ⟨_, List.getElem_mem hkl', rfl⟩
   obtain ⟨hnew, hp'⟩ := hp.add hi' (kd := zfm[kk]) (l := (i : Int) + 1)
   have hw6 := zvo hi'
   generalize zca[i] = w at hnew hp' hw6
   generalize zfm[kk] = kd at hk3 hkm hp'
   have hpl := hp.len
   have hprz : t.pr.length ≤ 1000 := by rw [G.pr]; unfold prV; rw [List.length_map]; lia
   have ei := cs4.get (i := 1) rfl
   refine zaa (sIf (bCmp (eBin (eBin (eLoc ok1 hF rfl rfl) (eBin eInt (zam ok1 hF rfl rfl ei) (fun J q => zrc (k := i) (by decide) (by decide) hw1 q)) (fun J q => zfp hw2 hw3 q)) eInt (fun J q => zel (by decide) q)) eInt kEqi) (fun J => ?_) (fun J => zab (zab (b4.n ⟨_, t, pr, ⟨hp.skip, G, hwf, hkf⟩, gr4, cs4, e4, e5, rfl⟩))))
   have eW : ∀ {H' : Hp} {p1 p2 p3 p4 : Pos}, H'.C (L + 1 + 1) = some (some (.int (i : Int))) -> Ev F.inl (.Subscript (.Call (.Name "_law_words" p1) [] [] p2) (.Name "k" p3) p4) (LQ (some (.int m)) (some (.ref g.g)) none none none none none none) H' (.str w) := fun e => eSub (zlc (zff ok1 W hF rfl rfl (.ref _)) eNil (zc9 ok1 W) (fun J q => zs8 (n := 19) ok1 W q)) (zam ok1 hF rfl rfl e) (zfz rfl hw6 (by decide))
   have eK : ∀ {H' : Hp} {p1 p2 p3 p4 p5 p6 p7 p8 p9 p10 : Pos} {k1 k2 : Nat}, H'.C (L + 1 + 1) = some (some (.int (i : Int))) -> Ev F.inl (.Subscript (.Call (.Name "_law_kinds" p1) [] [] p2) (.BinOp (.BinOp (.BinOp (.Name "mix" p3) .FloorDiv (.Constant (.int 64) k1 p4) p5) .Add (.Name "k" p6) p7) .Mod (.Constant (.int 3) k2 p8) p9) p10) (LQ (some (.int m)) (some (.ref g.g)) none none none none none none) H' (.str kd) := fun e => eSub (zlc (zff ok1 W hF rfl rfl (.ref _)) eNil (zc9 ok1 W) (fun J q => zs9 (n := 19) ok1 W q)) (eBin (eBin (eBin (eLoc ok1 hF rfl rfl) eInt (fun J q => zfp (by decide) (by decide) q)) (zam ok1 hF rfl rfl e) (fun J q => zjg q)) eInt (fun J q => zel (by decide) q)) (hkk ▸ zfz rfl hk3 (by decide))
   refine za0 (V5 L ns m g aw ak i t pr w kd) (fun Q5 b5 => znf ok1 (eLoc ok1 hF rfl rfl) (fun J q => zhq (f := 127) ok1 W gr4 (by decide) q) (zaj (eW ei) (zaj (eK ei) (zaj (eBin (zam ok1 hF rfl rfl ei) eInt (fun J q => zjg q)) eNil))) (zc9 ok1 W) (zbv (zsw ok1 W gr4 G.ps (by rw [G.pr]; exact (zpa (kd := kd) (l := 0) hnew).1) hkm hprz fun H' gr' ex => b5.n ⟨gr', cs4.extd ex (fun c ov h => h.foot gr4), zux ex e4 hwf, zux ex e5 hkf, rfl⟩))) ?_
   clear gr4 cs4 e4 e5
   rintro l H5 ⟨gr5, cs5, e4, e5, rfl⟩
   have hwl : aw ∉ GT.lists g { t with pr := dput t.pr w (.tup [.str kd, .int ((i : Int) + 1)]) } := fun z => hwf (.inr (.inl z))
   have hkl2 : ak ∉ GT.lists g { t with pr := dput t.pr w (.tup [.str kd, .int ((i : Int) + 1)]) } := fun z => hkf (.inr (.inl z))
   have hpr6 : pr.length ≤ 1000000 := Nat.le_trans hpl (Nat.le_trans (Nat.le_of_lt hi) (by decide))
   refine zaa (sApp ok1 (zam ok1 hF rfl rfl (cs5.get (i := 2) rfl)) e4 (eW (cs5.get (i := 1) rfl)) (by rw [List.length_map, List.length_map]; exact hpr6) ?_)
   have cs6 := cs5.setL e4 ((pr.map (·.1)).map V.str ++ [.str w])
   have gr6 := gr5.keepL hwl ((pr.map (·.1)).map V.str ++ [.str w])
   have e6 : ((H5.aL aw ((pr.map (·.1)).map V.str ++ [.str w])) : Hp).L aw = some (((pr ++ [(w, kd, (i : Int) + 1)]).map (·.1)).map .str) := by
    refine (zac _ _ _).trans ?_
    rw [List.map_append, List.map_append]; rfl
   have e7 : ((H5.aL aw ((pr.map (·.1)).map V.str ++ [.str w])) : Hp).L ak = some ((pr.map (·.2.1)).map .str) := (zak hne2.symm).trans e5
   generalize ((H5.aL aw ((pr.map (·.1)).map V.str ++ [.str w])) : Hp) = H6 at cs6 gr6 e6 e7
   clear cs5 gr5 e4 e5
   refine zaa (sApp ok1 (zam ok1 hF rfl rfl (cs6.get (i := 3) rfl)) e7 (eK (cs6.get (i := 1) rfl)) (by rw [List.length_map, List.length_map]; exact hpr6) (zab (zab (b4.n ⟨_, _, pr ++ [(w, kd, (i : Int) + 1)], ⟨hp', G.addPr hnew, hwf, hkf⟩, gr6.keepL hkl2 _, cs6.setL e7 _, (zak hne2).trans e6, ?_, rfl⟩))))
   refine (zac _ _ _).trans ?_
   rw [List.map_append, List.map_append]; rfl
  ·rintro l H' ⟨c1, t, pr, hh, gr3, cs3, e2, e3, rfl⟩
   exact ⟨zb0 (ok.handled (Nat.succ_ne_zero _)) (Nat.le_refl _), zab (b3.n ⟨c1, t, pr, hh, gr3, cs3, e2, e3, rfl⟩)⟩
 clear cs2 gr2 e2 e3 hwf hkf G
 rintro l H4 ⟨c1, t, pr, ⟨hp, G, hwf, hkf⟩, gr, cs, e1, e2, rfl⟩
 -- both are frozen
 refine zfe (cs.get (i := 2) rfl) e1 ?_
 have cs1 := (cs.unL aw).set (i := 2) (by show 2 < 12; decide) (sV (pr.map (·.1)))
 have gr1 := (gr.unL fun z => hwf (.inr (.inl z))).cellA (L + 1 + 2) (sV (pr.map (·.1)))
 have e3 : (((H4.uL aw).aC (L + 1 + 2) (sV (pr.map (·.1)))) : Hp).L ak = some ((pr.map (·.2.1)).map .str) := (zhm hne2.symm).trans e2
 generalize (((H4.uL aw).aC (L + 1 + 2) (sV (pr.map (·.1)))) : Hp) = H5 at cs1 gr1 e3
 clear cs gr e1 e2
 refine zfe (cs1.get (i := 3) rfl) e3 ?_
 have cs := (cs1.unL ak).set (i := 3) (by show 3 < 12; decide) (sV (pr.map (·.2.1)))
 have gr := (gr1.unL fun z => hkf (.inr (.inl z))).cellA (L + 1 + 3) (sV (pr.map (·.2.1)))
 generalize (((H5.uL ak).aC (L + 1 + 3) (sV (pr.map (·.2.1)))) : Hp) = H6 at cs gr
 clear cs1 gr1 e3 hwf hkf
 -- the rules
 have hpl := hp.len
 refine zcl (zho ok hF rfl rfl (zav (goE (zff ok W hF rfl rfl (.ref _)) (goEs (zaj (zam ok hF rfl rfl (cs.get (i := 0) rfl)) (zaj (zam ok hF rfl rfl (cs.get (i := 2) rfl)) eNil)) ⟨zc9 ok W, zte (n := 16) ok W (ws := pr.map (·.1)) rfl hz rfl (by rw [List.length_map]; exact Nat.le_trans hpl (by decide)) fun rules R => ⟨⟨_, cs.get (i := 4) rfl⟩, rfl, ?_⟩⟩))))
 have cs1 := cs.set (i := 4) (by show 4 < 12; decide) (rV rules)
 have gr1 := gr.cellA (L + 1 + 4) (rV rules)
 generalize ((H6.aC (L + 1 + 4) (rV rules)) : Hp) = H7 at cs1 gr1
 clear cs gr
 refine zcz (V6 L ns m g c1 pr rules) (fun Q6 b6 => zne (zam ok hF rfl rfl (cs1.get (i := 4) rfl)) rfl ?_) ?_
 ·refine za3 (fun i => zau i) rules.length (V7 L ns m g c1 pr rules) ⟨none, none, none, t, [], ⟨rfl, G⟩, gr1, cs1, rfl⟩ ?_ ?_
  ·clear gr1 cs1 G
   rintro i Q7 b7 l H' hi ⟨c5, c6, a9, t, pd, ⟨hpd, G⟩, gr3, cs3, rfl⟩
   have ok1 := ok.inl
   have htk : rules.take (i + 1) = rules.take i ++ [rules[i]] := zao hi
   have hxj : (rules.map ru3)[i]? = some (ru3 rules[i]) := by rw [List.getElem?_map, List.getElem?_eq_getElem hi]; rfl
   have hrm : rules[i] ∈ rules := List.getElem_mem hi
   have hnd : (rules[i].1, rules[i].2.1) ∉ pd.map fun p => (p.1.1, p.1.2.1) := by
    have h1 := zeh R.nd (i := i) (by rw [List.length_map]; exact hi)
    rw [List.getElem_map, ← List.map_take, ← hpd] at h1
    unfold rus at h1
    rwa [List.map_map] at h1
   generalize rules[i] = r at htk hxj hrm hnd
   have hb3 := R.bl r hrm
   have hsg := R.sg r hrm
   have hhd := R.hd r hrm
   have hwd := R.wd r hrm
   have hpl7 : pd.length ≤ 7 := by
    have := congrArg List.length hpd
    unfold rus at this
    rw [List.length_map, List.length_take] at this
    have := R.rl; lia
   have hin : ∀ p ∈ pd, p.1 ∈ rules := fun p hp => by
    have : p.1 ∈ rus pd := List.mem_map.mpr ⟨p, hp, rfl⟩
    rw [hpd] at this
    exact List.mem_of_mem_take this
   have hT4 : r.1 ∉ T4 := by
    have key : ∀ s ∈ abcd, s ∉ T4 := by decide +kernel
    exact key _ hhd
   have apok : ApOk t r.1 r.2.1 (wOpt r.2.2) := by
    refine ⟨by rw [G.kT]; exact hT4, fun e => ?_, fun s hs => zh9 s (List.mem_append_left _ (hsg s hs)), fun h => ?_, by rw [G.pm]; exact hnd, Nat.le_trans hb3 (by decide), G.sz gr3 (fun p hp => R.hd _ (hin p hp)) (fun p hp => R.sg _ (hin p hp)) hpl7, fun w hw => ?_, Nat.le_trans G.uz (Nat.le_trans hpl7 (by decide))⟩
    ·have key : ∀ s ∈ abcd, s ≠ "error" := by decide +kernel
     exact key _ hhd e
    ·have key : ∀ s ∈ zaz, s ≠ Str.ofString "%prec" := by decide +kernel
     exact key _ (hsg _ h) rfl
    ·unfold wOpt at hw
     split at hw
     ·cases hw
     ·rename_i hne3
      cases hw
      have hm := hwd.resolve_left hne3
      have h6 : r.2.2 ∈ zca := by
       obtain ⟨p, hp', e⟩ := List.mem_map.mp hm
       exact List.mem_of_mem_take (e ▸ hp.sub p hp')
      refine ⟨zh9 _ (List.mem_append_right _ h6), ?_, by rw [G.pr]; exact ztk hm⟩
      have key : ∀ s ∈ zca, s ≠ Str.ofString "%prec" := by decide +kernel
      exact key _ h6
   have cs4 := cs3.set (i := 5) (by show 5 < 12; decide) (some (.str r.1))
   have gr4 := gr3.cellA (L + 1 + 5) (some (.str r.1))
   have cs5 := cs4.set (i := 6) (by show 6 < 12; decide) (sV r.2.1)
   have gr5 := gr4.cellA (L + 1 + 6) (sV r.2.1)
   refine ⟨.tup [.str r.1, .list (r.2.1.map .str), .str r.2.2], zbh rfl hxj, zbg ok1 rfl (zfv ok1 hF rfl rfl (cs3.get (i := 5) rfl) (zfv ok1 hF rfl rfl (cs4.get (i := 6) rfl) (tLoc ok1 hF rfl ?_)))⟩
   generalize ((((H'.aC (L + 1 + 5) (some (.str r.1))) : Hp).aC (L + 1 + 6) (sV r.2.1)) : Hp) = H8 at cs5 gr5
   clear cs4 gr4 cs3 gr3
   have hal : r.2.1.length + (zia (wOpt r.2.2)).length ≤ 5 := by
    have : (zia (wOpt r.2.2)).length ≤ 2 := by
     cases wOpt r.2.2 with
     | none => exact Nat.zero_le _
     | some w => exact Nat.le_refl _
    lia
   refine zaa (zm4 ok1 (zc1 (goE (eLoc ok1 hF rfl rfl) (zhq (f := 135) ok1 W gr5 (by decide) (zag (goE (zam ok1 hF rfl rfl (cs5.get (i := 5) rfl)) (zag (zcr (goE (zmd ok1 (eBi ok1 W hF rfl rfl (by boot_by_name) (by decide)) (zam ok1 hF rfl rfl (cs5.get (i := 6) rfl)) (.inl rfl) (za1 hb3)) (goE (eIf (X := .list ((zia (wOpt r.2.2)).map .str)) (bCmp (eLoc ok1 hF rfl rfl) eStr kNes) (fun h => ?_) (fun h => ?_)) (zn5 rfl rfl (by rw [List.length_map, List.length_map]; exact Nat.le_trans hal (by decide)) fun a ha => zaf ⟨zc9 ok1 W, ?_⟩)))))))))))
   ·have h : ¬ r.2.2 = Str.ofString "" := by simpa using h
    have e : zia (wOpt r.2.2) = [("%prec" : Str), r.2.2] := by unfold wOpt; rw [if_neg h]; rfl
    rw [e]
    exact zeo (zaj eStr (zaj (eLoc ok1 hF rfl rfl) eNil))
   ·have h : r.2.2 = Str.ofString "" := by simpa using h
    have e : zia (wOpt r.2.2) = [] := by unfold wOpt; rw [if_pos h]; rfl
    rw [e]
    exact zeo eNil
   ·rw [← List.map_append, ← zpb]
    exact zbv (zsv ok1 W gr5 apok ha fun t' H' fs gr' ex grw k2 hpf e1 e2 e3 e4 => zab (b7.n ⟨_, _, _, t', pd ++ [(r, fs)], ⟨by unfold rus at hpd ⊢; rw [List.map_append, hpd, htk]; rfl, G.step hT4 hb3 k2 hpf e1 e2 e3 e4⟩, gr', cs5.extd ex (fun c ov h => h.foot gr5), rfl⟩))
  ·rintro l H' ⟨c5, c6, a9, t, pd, ⟨hpd, G⟩, gr3, cs3, rfl⟩
   rw [List.take_length] at hpd
   exact ⟨zan (ok.handled (Nat.succ_ne_zero _)) rfl (by rw [List.length_map]; exact Nat.le_refl _), zab (b6.n ⟨c5, c6, a9, t, pd, ⟨hpd, G⟩, gr3, cs3, rfl⟩)⟩
 clear gr1 cs1 G
 rintro l H8 ⟨c5, c6, a9, t, pd, ⟨rfl, G⟩, gr, cs, rfl⟩
 have hlr : (rus pd).length = pd.length := by unfold rus; rw [List.length_map]
 have r0 := R.r0
 have rl := R.rl
 exact lwW ok W N hS hne hF gr G cs ⟨by lia, by lia, by lia, hp.nd, fun p hp' => List.mem_of_mem_take (hp.sub p hp'), R.hd, R.sg, R.bl⟩
end
end W1
noncomputable abbrev zto (prog : Program) (w : World) (g : Heap) (s : Shared) (lim : Addr) (sv : List (Addr × Obj)) : Base := ⟨prog, w, g, s.os, lim, sv, fun a => g.get? a⟩
theorem ztl {prog : Program} {w : World} {g : Heap} {lim L : Addr} {s s' : Shared} {sv : List (Addr × Obj)} {m : Str -> Option Value} {nm : List (Str × NameKind)} {loc : Loc}
  (hgens : s'.gens = #[]) (hos : s'.os = s.os) (hl : 1 ≤ lim ∧ ∃ o, g.get? lim = some o) (hns : s'.heap.Ns L m) (hkeep : ∀ b o, g.get? b = some o -> s'.heap.get? b = some o) (hL : g.get? L = none) (hloc : zdh (fun a => g.get? a) nm loc m)
  (hsv : ∀ p ∈ sv, s'.heap.get? p.1 = some p.2 ∧ p.1 ≠ L ∧ g.get? p.1 = none) :
  Rel (zto prog w g s lim sv) L nm (fun a => g.get? a) loc noHp s' where
 keep := hkeep
 based := ⟨fun J J e => e, Le.refl _⟩
 own := fun a => by
  refine ⟨fun h => absurd h (by simp [Hp.Own]), ?_, ?_, ?_, ?_, ?_, ?_, fun J => rfl, ?_⟩ <;> (intro _ h; cases h)
 lB := hL
 lH := by simp [Hp.Own]
 ns := ⟨m, hns, hloc⟩
 gens := hgens
 os := hos
 lim := hl
 sv := fun p hp => by
  obtain ⟨h1, h2, h3⟩ := hsv p hp
  exact ⟨⟨p.2, h1, .inl ⟨rfl, fun J => rfl⟩⟩, h3, by simp [Hp.Own], h2⟩
theorem zgf {bV : List (Str × V)} {H : Hp} : ∀ {cs : List (Str × Addr)} {n : Str} {c : Addr}, cs.Pairwise (fun x y => x.2 ≠ y.2) -> (n, c) ∈ cs -> (za7 H bV cs).C c = some (bV.lookup n)
 | (m, b) :: r, n, c, hp, hm => by
  rw [List.pairwise_cons] at hp
  show up (za7 H bV r).C b (bV.lookup m) c = _
  rcases List.mem_cons.mp hm with e | hm
  ·cases e; exact zac _ _ _
  ·have : c ≠ b := fun z => hp.1 _ hm z.symm
   rw [zak this]; exact zgf hp.2 hm
theorem zlj {l : List (Str × Addr)} {x : Str} {a : Addr} (h : l.lookup x = some a) : (x, a) ∈ l := by
 induction l with
 | nil => cases h
 | cons p r ih =>
  obtain ⟨y, b⟩ := p
  rw [List.lookup_cons] at h
  cases e : x == y with
  | true => rw [e] at h; cases h; obtain rfl := eq_of_beq e; exact .head _
  | false => rw [e] at h; exact .tail _ (ih h)
namespace W1
theorem zqx (xs : List WData) : PySem.Challenge.rw_iw0034_02.row.claim.post xs (.bool true) xs = true := by
 show (WShape.has [] (WData.bool true) .bool && WTm.holds [] (.eq .res (.lit (.bool true))) { args := xs, res := some (WData.bool true), after := xs }) = true
 rw [Bool.and_eq_true]
 refine ⟨by simp [WShape.has, WShape.arms], by simp [WTm.holds, WTm.value, same]⟩
theorem zpc {prog : Program} {w : World} {P : Params} {s₁ : Shared} {R : Result -> Shared -> Prop} {a : Addr} {ns : List Int} {g : Heap} (W1 : Wd (K P) s₁.heap) (W0 : Wd (K P) g) (N : Nest g 147 145)
  (hsub : ∀ b o, g.get? b = some o -> s₁.heap.get? b = some o) (hsz : g.objs.size ≤ s₁.heap.objs.size) (hP : s₁.heap.get? 145 = some (zf3 #[])) (hP0 : g.get? 145 = none) (hg : s₁.gens = #[])
  (ha : RelV (fun b => g.get? b) (.ref a) (.list (ns.map .int))) (hn : ns.length ≤ 1000)
  (hR : ∀ s' : Shared, s'.gens = #[] -> s'.os = s₁.os -> (∀ b o, g.get? b = some o -> s'.heap.get? b = some o) -> (∃ ps, s'.heap.get? 145 = some (zf3 ps)) -> R (.ok (.ret (.bool true))) s') :
  codeAny (model prog w) callerA (.call (.ref 282) ⟨[.ref a], []⟩) R s₁ := by
 have Fnn := Fn.of W1 (a := 282) (body := zf5 P) rfl rfl rfl
 obtain ⟨o, ho, hd⟩ := Fnn.at_
 have hL0 : g.get? s₁.heap.objs.size = none := Heap.get?_none_of_le hsz
 have hPl : 145 < s₁.heap.objs.size := Heap.lt_size hP
 have hlim : 1 ≤ 282 ∧ ∃ o, g.get? 282 = some o := ⟨by decide, _, W0.k 282 _ rfl⟩
 have hl282 : 282 < s₁.heap.objs.size := Heap.lt_size (hsub _ _ hlim.2.choose_spec)
 have hpn := zjs (fd := (kFd (K P) 282).get rfl) (pn := ["script"]) rfl [.list (ns.map .int)]
 refine zdz (by decide) ho hd Fnn.nolim Fnn.code Fnn.body (binds := [("script", .ref a)]) ?_ Fnn.clo ?_ (fun s₂ X => ?_) Fnn.co Fnn.gen Fnn.kind
 ·exact Looks.of_peek W1.k rfl
 ·intro x hx
  rw [List.mem_singleton] at hx; subst hx
  exact .inr ⟨rfl, rfl⟩
 obtain ⟨⟨hh, tk, rfl⟩, hns, hkeep, hfr⟩ := X.toInCall
 let L := s₁.heap.objs.size
 let bV : List (Str × V) := [("script", .list (ns.map .int))]
 have hks : za6 (fun b => g.get? b) [((("script" : Str), Value.ref a) : Str × Value)] bV := ze7 (pn := ["script"]) (.cons ha .nil)
 have hnd' : (([("script", Value.ref a)] : List (Str × Value)).map (·.1)).Nodup := by simp
 have R0 : Rel (zto prog w g s₁ 282 [(145, zf3 #[])]) L (zaw P) (fun b => g.get? b) (zbq (zaw P) bV) noHp ⟨hh, s₁.gens, s₁.drawn, tk, s₁.os⟩ :=
  ztl (s := s₁) (s' := ⟨hh, s₁.gens, s₁.drawn, tk, s₁.os⟩) hg rfl hlim hns (fun b o e => hkeep b o (hsub b o e)) hL0 (zhs hks hnd') fun p hp => by
   rw [List.mem_singleton] at hp; subst hp
   exact ⟨hkeep _ _ hP, Nat.ne_of_lt hPl, hP0⟩
 have fr : ∀ n c, (n, c) ∈ cellsFrom (L + 1) (zaw P) [] -> L < c := fun n c hm => X.above n c hm
 have R2 := R0.adopts (bV := bV) (cm := bindC (fun x => (zaw P).lookup x) [((("script" : Str), Value.ref a) : Str × Value)] fun J => none) (cs := cellsFrom (L + 1) (zaw P) []) (fun n c hm => by
   have hc := fr n c hm
   have hgc : g.get? c = none := Heap.get?_none_of_le (Nat.le_trans hsz (Nat.le_of_lt hc))
   refine ⟨hgc, by simp [Hp.Own], Nat.ne_of_gt hc, ?_, Nat.lt_trans hl282 hc, ?_, ?_⟩
   ·intro p hp e
    rw [List.mem_singleton] at hp; subst hp
    exact absurd e (Nat.ne_of_lt (Nat.lt_trans hPl hc))
   ·have hk := zbi (zaw P) (L + 1) []
    have hnd2 : ((cellsFrom (L + 1) (zaw P) []).map (·.1)).Nodup := by
     rw [hk]
     simp only [List.map_nil, List.append_nil]
     exact (List.reverse_perm _).nodup_iff.mpr ((List.Sublist.map _ List.filter_sublist).nodup Fnn.nd)
    exact X.cell n c (zb5 hnd2 hm)
   ·have hk := zbi (zaw P) (L + 1) []
    have hm2 : n ∈ (cellsFrom (L + 1) (zaw P) []).map (·.1) := List.mem_map.mpr ⟨_, hm, rfl⟩
    rw [hk] at hm2
    simp only [List.map_nil, List.append_nil, List.mem_reverse, List.mem_map, List.mem_filter] at hm2
    obtain ⟨⟨n', kd⟩, ⟨hm3, hm4⟩, rfl⟩ := hm2
    have hm5 : kd = NameKind.cell := eq_of_beq hm4
    subst hm5
    have hlk := zb5 Fnn.nd hm3
    rw [zij _ _ _ hnd' (by rw [show (zaw P).lookup n' = _ from hlk]; simp)]
    simp only [Option.or_none]
    exact hks.lookup) X.apart
 generalize hE : (fun (e : Value) (s' : Shared) => wpAny (model prog w) (callerA.deeper _) (leaving _ e) (fun J s'' => R (.error e) s'') (fun e' s'' => R (.error e') s'') s') = E
 let env := callEnvC ((kFd (K P) 282).get rfl) L 282
 let F0 : Fx := ⟨zto prog w g s₁ 282 [(145, zf3 #[])], callerA.deeper env, env, E⟩
 have hF : zah F0 (zaw P) (zc8 L) := ⟨rfl, rfl⟩
 have ok : Ok F0 20 := by
  refine ⟨rfl, rfl, rfl, rfl, by show 4 + 3 + 40 * 20 + 200 < 9900; lia, by show 1 + 300 + 1 + 4 * 20 + 4 < 1000; lia, fun J => rfl, ⟨[env], rfl, fun e he => ?_⟩⟩
  rw [List.mem_singleton] at he; subst he
  exact ⟨(by intro h; cases h), .inl rfl⟩
 have hcs : zba (za7 noHp bV (cellsFrom (L + 1) (zaw P) [])) L (CO (some (.list (ns.map .int))) none none none none none none none none none none none) := by
  have key : ∀ (x : Str) (c : Addr) (o : Option V), (zc8 L).lookup x = some c -> bV.lookup x = o -> zb3 (za7 noHp bV (cellsFrom (L + 1) (zaw P) [])) c o := fun x c o h1 h2 =>
   ⟨h2 ▸ zgf X.apart (zlj h1), rfl, rfl, rfl, rfl⟩
  refine ⟨fun i o e => ?_⟩
  match i, e with
  | 0, e => cases e; exact key "script" _ _ rfl rfl
  | 1, e => cases e; exact key "k" _ _ rfl rfl
  | 2, e => cases e; exact key "words" _ _ rfl rfl
  | 3, e => cases e; exact key "kinds" _ _ rfl rfl
  | 4, e => cases e; exact key "rules" _ _ rfl rfl
  | 5, e => cases e; exact key "head" _ _ rfl rfl
  | 6, e => cases e; exact key "body" _ _ rfl rfl
  | 7, e => cases e; exact key "heads" _ _ rfl rfl
  | 8, e => cases e; exact key "names" _ _ rfl rfl
  | 9, e => cases e; exact key "line" _ _ rfl rfl
  | 10, e => cases e; exact key "ends" _ _ rfl rfl
  | 11, e => cases e; exact key "stands" _ _ rfl rfl
  | i + 12, e => cases e
 have Z := lwV (F := F0) ok W0 N rfl (Nat.ne_of_gt hPl) hF (H := za7 noHp bV (cellsFrom (L + 1) (zaw P) [])) (fun J => rfl) hn hcs _ _ R2
 refine wpAny_mono Z (fun f s' p => ?_) fun J J x => x
 obtain ⟨B', b, loc', H', le, rf, R', rfl⟩ := p
 cases rf with
 | ret r =>
  obtain rfl := r.bI
  obtain ⟨⟨o', h1, h2⟩, _⟩ := R'.sv (145, znj) (.head _)
  refine hR s' R'.gens R'.os (fun b o e => R'.inBase e) ?_
  rcases h2 with ⟨_, h2⟩ | ⟨_, ps, h2⟩
  ·exact ⟨#[.none], by rw [h1, h2 (fun es ep z => by cases z)]⟩
  ·exact ⟨ps, by rw [h1, h2]⟩
end W1
end Lay
open Lay Lay.W1
set_option tactic.hygienic true in
theorem PySem.Challenge.cw_iw0034_02_holds : PySem.Challenge.rw_iw0034_02.Holds :=
  holds_law zve fun said => holds_open (r := rw0.row) (q := qv) (loose := zkl) (Xt := qX) (XP := XL qv []) (Yf := Hook.obs kH) (Ya := Hook.val kH) (YP := Hook.says kH) (N := 5000) zvd (Hook.of kH) (Hook.keeps kH) (fun s e => xl_of s (Bool.and_eq_true_iff.mp e).1) XL.keeps (by rfl) (by rfl) (by rfl) (fun s e => recFacts_of (Bool.and_eq_true_iff.mp e).2) (by rfl) said (by decide +kernel) ⟨rfl, rfl, rfl, rfl, rfl, by decide +kernel⟩ ⟨[.list []], by decide +kernel, by decide +kernel⟩ ((fun (h : ∀ q, q = qv -> WalkO q zkl (XL qv []) (Hook.says kH) _ _ _ _) => h qv rfl) (by
 intro q hq
 k_fill
 intro w s₀ s₁ mg mb G Y fa o pm cd doc dV kV ho hd hcd hD hmg hg args vals as hpre hlay hrd hwl hlo
 have KX := km_in_of Y
 km_tabs Y
 refine Ground.open G ?_
 intro T B D TE TW
 have hT9 : TabsAt [(147, 145)] s₁.heap := List.forall_mem_cons.mpr ⟨⟨codeHd_of_K (c := 147) (P := 145) KX (by kernel_rfl), hT8 145 (.head _)⟩, fun J h => nomatch h⟩
 wrow_args hpre hlay hrd hwl hlo
 all_goals (
  first | refine callC_kw (enter_call ?_) | refine enter_call ?_
  w_top on
  kn_posts)
 rename_i ns hs hlay0 hL1 hr1 hl2 as1 as2 la vs as3 hL ra w1 r0 hI hr hlen hcond
 have e282 : fa = 282 := by
  have := mg_of KX (Top.g T) (n := "law") (v := Value.ref 282) rfl
  rw [hmg] at this; cases this; rfl
 subst e282
 have T' := ghost_top hT9 T
 have KX' := ghost_K hT9 KX (by kernel_rfl)
 have hP0 : (ghostOf s₁.heap [(147, 145)]).get? 145 = none := hideAll_none _ (.head _)
 have N : Nest (ghostOf s₁.heap [(147, 145)]) 147 145 := by
  refine ⟨(ghost_code hT9).1, ⟨mg, Top.g T', ?_⟩, by decide⟩
  obtain ⟨bm, ob, b1, b2, b3, b4, b5, b6⟩ := Top.bmain T'
  refine ⟨bm, ob, b1, b2, fun q => ?_, fun q => ?_, b3, b4, b5, b6⟩
  ·obtain ⟨o2, es, ep, g1, g2, _⟩ := Top.g T'
   rw [q, g1] at b3; cases b3; rw [b6] at g2; cases g2
  ·rw [q, hP0] at b3; cases b3
 have ha : RelV (fun b => (ghostOf s₁.heap [(147, 145)]).get? b) (.ref la) (.list (ns.map .int)) := by
  unfold ofPy at w1
  cases w1 with
  | list h1 h2 => exact .list (n := 0) (ghost_get hT9 h1 (fun q => by cases q)) (by simpa using zl8 h2)
 refine zpc (P := w.params) ⟨KX, ⟨_, Top.g T⟩, ⟨_, Top.b T, Top.builtins T⟩, Top.nolimit T⟩ ⟨KX', ⟨_, Top.g T'⟩, ⟨_, Top.b T', Top.builtins T'⟩, Top.nolimit T'⟩ N (fun b o e => of_hideAll _ e) (Nat.le_of_eq (hideAll_size _ _)) (hT8 145 (.head _)) hP0 hg ha (by lia) fun s' h1 h2 h3 h4 => ?_
 exact ⟨⟨.inl ⟨_, .bool true, [], rfl, fun J => rfl, .bool true, (zqx _), fun J => ⟨List.nodup_nil, fun J h => nomatch h⟩⟩, h3, h2, h1⟩, h4, trivial⟩))
