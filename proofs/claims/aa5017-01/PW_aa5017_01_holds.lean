import PyProof.Rows.All
import Wide.All
import OpenK.AllK
import Wide.FinOn
import PySem.Challenge.RW_aa5017_01
-- part H1
open PySem PySem.W PyProof.Rows
set_option Elab.async false
namespace Mine
set_option maxRecDepth 100000 in
set_option maxHeartbeats 8000000 in
open_top hd for PySem.Challenge.rw_aa5017_01
end Mine
-- part MA
open PySem PySem.W PyProof.Rows PySem.Calls
set_option Elab.async false
namespace Mine

/-- an atom: an int or a text -/
abbrev At := Int ⊕ Str
/-- a datum: an atom, or a tuple of atoms -/
abbrev Dt := At ⊕ List At

def isAt : At → Value → Bool
  | .inl n, v => Value.isInt n v
  | .inr x, v => Value.isStrOf x v

theorem at_int {n : Int} {v : Value} (h : isAt (.inl n) v = true) : ∃ t, v = .int n t := Value.isInt_shape (k := n) h
theorem at_str {x : Str} {v : Value} (h : isAt (.inr x) v = true) : ∃ t, v = .str x t := Value.isStrOf_shape (x := x) h

theorem isAt_inj (v : Value) (a b : At) (ha : isAt a v = true) (hb : isAt b v = true) : a = b := by
  rcases a with a | a <;> rcases b with b | b
  · exact congrArg _ (Value.isInt_inj v a b ha hb)
  · obtain ⟨t, rfl⟩ := at_int ha; obtain ⟨u, e⟩ := at_str hb; cases e
  · obtain ⟨t, rfl⟩ := at_str ha; obtain ⟨u, e⟩ := at_int hb; cases e
  · exact congrArg _ (Value.isStrOf_inj v a b ha hb)

def atKind (prog : Program) (w : World) : KeyKind prog w At where
  is := isAt
  hash := fun | .inl n => hashInt n | .inr x => hashStr w x
  inj := isAt_inj
  byValue := fun k v h => by
    rcases k with k | k
    · obtain ⟨t, rfl⟩ := at_int h; rfl
    · obtain ⟨t, rfl⟩ := at_str h; rfl
  pyHash := fun {A E s k v Q} hv h => by
    rcases k with k | k
    · obtain ⟨t, rfl⟩ := at_int hv; exact wpAny_pyHash_int h
    · obtain ⟨t, rfl⟩ := at_str hv; exact wpAny_pyHash_str h
  eqBool := fun {A E s a b u v Q} hu hv h => by
    rcases a with a | a <;> rcases b with b | b
    · obtain ⟨t, rfl⟩ := at_int hu
      obtain ⟨t', rfl⟩ := at_int hv
      exact wpAny_eqBool_int (by simpa [Bool.beq_eq_decide_eq] using h)
    · obtain ⟨t, rfl⟩ := at_int hu
      obtain ⟨t', rfl⟩ := at_str hv
      exact SeqAt.EqAt.int_str _ _ _ _ prog w E _ (by simpa using h)
    · obtain ⟨t, rfl⟩ := at_str hu
      obtain ⟨t', rfl⟩ := at_int hv
      exact SeqAt.EqAt.str_int _ _ _ _ prog w E _ (by simpa using h)
    · obtain ⟨t, rfl⟩ := at_str hu
      obtain ⟨t', rfl⟩ := at_str hv
      exact wpAny_eqBool_str (by simpa using h)
  «strs» := fun k x t v h => by
    rcases k with k | k
    · cases h
    · have e : x = k := by
        obtain ⟨u, hu⟩ := at_str h
        injection hu
      subst e
      exact (isStr_of _ _).symm

section
variable (prog : Program) (w : World)

/-- the value v stands for the datum x, the tuples being those that P tells -/
def DenP (P : Addr → Obj → Prop) (v : Value) : Dt → Prop
  | .inl a => isAt a v = true
  | .inr ks => ∃ a, v = .ref a ∧ ∃ o items n, P a o ∧ o.cls = .type "tuple" ∧ o.data = .seq items n ∧ ItemsAre (atKind prog w) ks items.toList
/-- the value v stands for the datum x in the heap h -/
def Den (h : Heap) (v : Value) (x : Dt) : Prop := DenP prog w (fun b o => h.get? b = some o) v x

def hashD : Dt → Int
  | .inl a => (atKind prog w).hash a
  | .inr ks => tupleKeyHash (atKind prog w) ks
end

section
variable {prog : Program} {w : World} {A : Around} {E : Value → Shared → Prop} {s : Shared}

theorem DenP.mono {P P' : Addr → Obj → Prop} {v : Value} {x : Dt} (hx : DenP prog w P v x) (k : ∀ b o, P b o → o.cls = .type "tuple" → P' b o) : DenP prog w P' v x := by
  rcases x with a | ks
  · exact hx
  · obtain ⟨a, rfl, o, items, n, ho, hc, r⟩ := hx
    exact ⟨a, rfl, o, items, n, k a o ho hc, hc, r⟩
/-- what P tells of tuples stands in h -/
def TupsIn (P : Addr → Obj → Prop) (h : Heap) : Prop := ∀ b o, P b o → o.cls = .type "tuple" → h.get? b = some o
theorem DenP.den {P : Addr → Obj → Prop} {h : Heap} {v : Value} {x : Dt} (hx : DenP prog w P v x) (k : TupsIn P h) : Den prog w h v x := hx.mono k
theorem TupsIn.keeps {P : Addr → Obj → Prop} {h h' : Heap} (k : TupsIn P h) (s : ∀ b o, h.get? b = some o → h'.get? b = some o) : TupsIn P h' := fun b o p c => s b o (k b o p c)

theorem Den.inj {h : Heap} {v : Value} {x y : Dt} (hx : Den prog w h v x) (hy : Den prog w h v y) : x = y := by
  rcases x with a | a <;> rcases y with b | b
  · exact congrArg _ (isAt_inj v a b hx hy)
  · obtain ⟨c, rfl, _⟩ := hy
    rcases a with a | a
    · obtain ⟨t, e⟩ := at_int hx; cases e
    · obtain ⟨t, e⟩ := at_str hx; cases e
  · obtain ⟨c, rfl, _⟩ := hx
    rcases b with b | b
    · obtain ⟨t, e⟩ := at_int hy; cases e
    · obtain ⟨t, e⟩ := at_str hy; cases e
  · obtain ⟨c, rfl, h1⟩ := hx
    obtain ⟨c', e, h2⟩ := hy
    cases e
    exact congrArg _ (IsTupleKey.inj (knd := atKind prog w) h1 h2)

/-- tuples stay -/
def TupStay (h h' : Heap) : Prop := ∀ b o, h.get? b = some o → o.cls = .type "tuple" → h'.get? b = some o
theorem TupStay.refl (h : Heap) : TupStay h h := fun _ _ e _ => e
theorem TupStay.trans {h h' h'' : Heap} (a : TupStay h h') (b : TupStay h' h'') : TupStay h h'' := fun x o e c => b x o (a x o e c) c
theorem TupStay.of_keeps {h h' : Heap} (k : ∀ b o, h.get? b = some o → h'.get? b = some o) : TupStay h h' := fun b o e _ => k b o e
theorem Den.stay {h h' : Heap} {v : Value} {x : Dt} (hx : Den prog w h v x) (k : TupStay h h') : Den prog w h' v x := by
  rcases x with a | ks
  · exact hx
  · obtain ⟨a, rfl, o, items, n, ho, hc, r⟩ := hx
    exact ⟨a, rfl, o, items, n, k a o ho hc, hc, r⟩

theorem Den.eqAt {u v : Value} {x y : Dt} (hu : A.units < cLine) (hx : Den prog w s.heap u x) (hy : Den prog w s.heap v y) {Q : Bool → Shared → Prop} (h : Q (decide (x = y)) s) :
    wpAny (model prog w) A (eqBool u v) Q E s := by
  rcases x with a | ks <;> rcases y with b | ls
  · exact (atKind prog w).eqBool (a := a) (b := b) hx hy (by simpa using h)
  · obtain ⟨c, rfl, hk⟩ := hy
    obtain ⟨o, items, n, ho, hc, hd, hi⟩ := hk
    have ht : s.heap.IsTuple c items := ⟨o, ho, hc, n, hd⟩
    have h' : Q false s := by simpa using h
    rcases a with a | a
    · obtain ⟨t, rfl⟩ := at_int hx; exact SeqAt.EqAt.int_tuple _ _ ht hu prog w E _ h'
    · obtain ⟨t, rfl⟩ := at_str hx; exact SeqAt.EqAt.str_tuple _ _ ht hu prog w E _ h'
  · obtain ⟨c, rfl, hk⟩ := hx
    obtain ⟨o, items, n, ho, hc, hd, hi⟩ := hk
    have ht : s.heap.IsTuple c items := ⟨o, ho, hc, n, hd⟩
    have h' : Q false s := by simpa using h
    rcases b with a | a
    · obtain ⟨t, rfl⟩ := at_int hy; exact SeqAt.EqAt.tuple_int _ _ ht hu prog w E _ h'
    · obtain ⟨t, rfl⟩ := at_str hy; exact SeqAt.EqAt.tuple_str _ _ ht hu prog w E _ h'
  · obtain ⟨c, rfl, h1⟩ := hx
    obtain ⟨c', rfl, h2⟩ := hy
    exact wpAny_eqBool_tuple hu h1 h2 (by simpa using h)

theorem Den.pyHash {v : Value} {x : Dt} (hu : A.units < cLine) (hx : Den prog w s.heap v x) {Q : Int → Shared → Prop} (h : ∀ tk, Q (hashD prog w x) { s with toks := tk }) :
    wpAny (model prog w) A (pyHash v) Q E s := by
  rcases x with a | ks
  · exact (atKind prog w).pyHash (k := a) hx (h _)
  · obtain ⟨c, rfl, h1⟩ := hx
    exact wpAny_pyHash_tuple hu h1 (h _)

theorem Den.quiet {v : Value} {x : Dt} (hx : Den prog w s.heap v x) {Q : Bool → Shared → Prop} (h : Q true s) : wpAny (model prog w) A (eqIsQuiet 8 v) Q E s := by
  rcases x with a | ks
  · rw [eqIsQuiet_byValue _ ((atKind prog w).byValue a v hx)]; exact wpAny_pure h
  · obtain ⟨c, rfl, h1⟩ := hx
    exact wpAny_eqIsQuiet_tuple h1 h

theorem tellsNot {key : Value} {x : Dt} {stored : List Value} (hx : Den prog w s.heap key x) (hs : ∀ v ∈ stored, ∃ y, Den prog w s.heap v y) {Q : Bool → Shared → Prop} (h : Q false s) :
    wpAny (model prog w) A (tableMayTell key stored) Q E s := by
  unfold tableMayTell
  split
  · exact wpAny_pure h
  · refine wpAny_bind (hx.quiet ?_)
    simp only [Bool.not_true, Bool.false_eq_true, if_false]
    refine wpAny_bind (wpAny_forIn_list _ (fun rest r s' => s' = s ∧ r = (none, ()) ∧ ∀ v ∈ rest, ∃ y, Den prog w s.heap v y) _ ?_ ?_ _ _ ⟨rfl, rfl, hs⟩)
    · rintro v rest r s' ⟨rfl, rfl, hr⟩
      obtain ⟨y, hy⟩ := hr v (List.mem_cons_self ..)
      refine wpAny_bind (hy.quiet ?_)
      simp only [Bool.not_true, Bool.false_eq_true, if_false]
      exact wpAny_pure ⟨rfl, rfl, fun u hu => hr u (List.mem_cons_of_mem _ hu)⟩
    · rintro r s' ⟨rfl, rfl, _⟩
      exact wpAny_pure h

/-- the entry of a datum's key -/
def entD (p : Dt × Value × Value) : DictEntry := ⟨hashD prog w p.1, p.2.1, p.2.2⟩

theorem mem_places {es : Array DictEntry} {h : Int} {i : Nat} : i ∈ placesWithHash es.size (fun i => es[i]?.map (·.hash)) h ↔ ∃ e, es[i]? = some e ∧ e.hash = h := by
  unfold placesWithHash
  rw [List.mem_filter, List.mem_range]
  constructor
  · rintro ⟨hi, he⟩
    cases hq : es[i]? with
    | none => simp [hq] at he
    | some e => simp only [hq] at he; exact ⟨e, rfl, by simpa using he⟩
  · rintro ⟨e, he, rfl⟩
    exact ⟨(Array.getElem?_eq_some_iff.mp he).1, by simp [he]⟩
theorem nodup_places {es : Array DictEntry} {h : Int} : (placesWithHash es.size (fun i => es[i]?.map (·.hash)) h).Nodup := by
  unfold placesWithHash
  exact List.Pairwise.filter _ List.nodup_range

theorem key_unique {xs : List (Dt × Value × Value)} (hn : (xs.map (·.1)).Nodup) {i j : Nat} {x : Dt} {p q : Value × Value} (hi : xs[i]? = some (x, p)) (hj : xs[j]? = some (x, q)) : i = j := by
  have hi' : (xs.map (·.1))[i]? = some x := by rw [List.getElem?_map, hi]; rfl
  have hj' : (xs.map (·.1))[j]? = some x := by rw [List.getElem?_map, hj]; rfl
  exact (List.getElem?_inj (List.getElem?_eq_some_iff.mp hi').1 hn).mp (hi'.trans hj'.symm)

theorem isExact_of {v : Value} (h : isExactStrKey v = true) : ∃ x t, v = .str x t := by
  cases v <;> first | exact ⟨_, _, rfl⟩ | cases h

/-- a place of a dict's entries and the datum that stands there -/
theorem ent_at {es : Array DictEntry} {xs : List (Dt × Value × Value)} (he : es.toList = xs.map (entD (prog := prog) (w := w))) (i : Nat) : es[i]? = xs[i]?.map (entD (prog := prog) (w := w)) := by
  rw [← Array.getElem?_toList, he, List.getElem?_map]

theorem dictFind_D {d : Addr} {o : Obj} {es ep} {xs : List (Dt × Value × Value)} {key : Value} {x : Dt} {Q : Option Nat → Shared → Prop} (hu : A.units < cLine) (hx : Den prog w s.heap key x)
    (ho : s.heap.get? d = some o) (hd : o.data = .dict es ep) (he : es.toList = xs.map (entD (prog := prog) (w := w))) (hk : ∀ p ∈ xs, Den prog w s.heap p.2.1 p.1) (hn : (xs.map (·.1)).Nodup)
    (hnone : x ∉ xs.map (·.1) → Q none s) (hsome : ∀ (j : Nat) (p : Value × Value), xs[j]? = some (x, p) → Q (some j) s) :
    wpAny (model prog w) A (dictFind d key (hashD prog w x)) Q E s := by
  have at_ := ent_at (prog := prog) (w := w) he
  -- what stands at a place
  have dat : ∀ (i : Nat) (e : DictEntry), es[i]? = some e → ∃ y p, xs[i]? = some (y, p) ∧ e = entD (prog := prog) (w := w) (y, p) ∧ Den prog w s.heap e.key y := by
    intro i e hi
    rw [at_ i] at hi
    cases hq : xs[i]? with
    | none => rw [hq] at hi; cases hi
    | some p =>
      rw [hq] at hi
      cases hi
      exact ⟨p.1, p.2, rfl, rfl, hk p (List.mem_of_getElem? hq)⟩
  have hits : ∀ (j : Nat) (p : Value × Value), xs[j]? = some (x, p) → j ∈ placesWithHash es.size (fun i => es[i]?.map (·.hash)) (hashD prog w x) := fun j p hj =>
    mem_places.mpr ⟨_, by rw [at_ j, hj]; rfl, rfl⟩
  have none_of : (∀ (j : Nat) (p : Value × Value), xs[j]? ≠ some (x, p)) → x ∉ xs.map (·.1) := by
    intro h hm
    obtain ⟨p, hp, rfl⟩ := List.mem_map.mp hm
    obtain ⟨j, hj⟩ := List.mem_iff_getElem?.mp hp
    exact h j p.2 hj
  unfold dictFind
  try with_reducible refine wpAny_holding ?_
  refine wpAny_bind (wpAny_dictEntries ho hd ?_)
  dsimp only
  -- the walk over the places, by value
  have plain : wpAny (model prog w) A (dictWalkPlain d key (hashD prog w x) es (placesWithHash es.size (fun i => es[i]?.map (·.hash)) (hashD prog w x))) Q E s := by
    unfold dictWalkPlain
    refine wpAny_bind ?_
    refine wpAny_forIn_list _ (fun rest b s' => s' = s ∧ b = (none, ()) ∧ ∃ pre, placesWithHash es.size (fun i => es[i]?.map (·.hash)) (hashD prog w x) = pre ++ rest ∧ ∀ i ∈ pre, ∀ p, xs[i]? ≠ some (x, p)) _ ?_ ?_ _ _ ⟨rfl, rfl, [], rfl, fun _ h => nomatch h⟩
    · rintro i rest b s' ⟨rfl, rfl, pre, hp, hno⟩
      have him : i ∈ placesWithHash es.size (fun i => es[i]?.map (·.hash)) (hashD prog w x) := by rw [hp]; simp
      obtain ⟨e, hei, heh⟩ := mem_places.mp him
      obtain ⟨y, p, hxi, rfl, hy⟩ := dat i e hei
      simp only [hei]
      rw [if_pos (by simpa using heh)]
      refine wpAny_bind (wpAny_dictEpoch ho hd (wpAny_bind (Den.eqAt hu hy hx (wpAny_bind (wpAny_dictEpoch ho hd ?_)))))
      rw [if_neg (by simp)]
      by_cases hyx : y = x
      · subst hyx
        rw [decide_eq_true rfl]
        exact wpAny_bind (wpAny_rule (wpAny_pure (wpAny_pure (hsome i p hxi))))
      · rw [decide_eq_false hyx]
        refine wpAny_bind (wpAny_rule (wpAny_pure ⟨rfl, rfl, pre ++ [i], by rw [hp]; simp, fun j hj q hq => ?_⟩))
        rcases List.mem_append.mp hj with hj | hj
        · exact hno j hj q hq
        · have := List.mem_singleton.mp hj
          subst this
          rw [hxi] at hq
          cases hq
          exact hyx rfl
    · rintro b s' ⟨rfl, rfl, pre, hp, hno⟩
      refine wpAny_pure (hnone (none_of fun j p hj => hno j ?_ p hj))
      have := hits j p hj
      rw [hp, List.append_nil] at this
      exact this
  have stored : ∀ v ∈ (placesWithHash es.size (fun i => es[i]?.map (·.hash)) (hashD prog w x)).filterMap (fun i => es[i]?.map (·.key)), ∃ y, Den prog w s.heap v y := by
    intro v hv
    obtain ⟨i, _, hi⟩ := List.mem_filterMap.mp hv
    cases hei : es[i]? with
    | none => rw [hei] at hi; cases hi
    | some e =>
      rw [hei] at hi
      cases hi
      obtain ⟨y, _, _, _, hy⟩ := dat i e hei
      exact ⟨y, hy⟩
  have start : placesWithHash es.size (fun i => es[i]?.map (·.hash)) (hashD prog w x) = [] ++ placesWithHash es.size (fun i => es[i]?.map (·.hash)) (hashD prog w x) := rfl
  have found (y : Str) (t : Tok) (ex : x = .inl (.inr y)) (ek : key = .str y t) (hs : (es.all fun e => isExactStrKey e.key) = true) : wpAny (model prog w) A (foundByValue d key es y) Q E s := by
    subst ex
    unfold foundByValue
    have same : ∀ (i : Nat) (e : DictEntry), es[i]? = some e → e.key.isStr y = true → ∃ p, xs[i]? = some (.inl (.inr y), p) := by
      intro i e hi hq
      obtain ⟨z, p, hz, rfl, hd⟩ := dat i e hi
      have hz' : isAt (.inr y) (entD (prog := prog) (w := w) (z, p)).key = true := (isStr_of _ _).symm.trans hq
      have : z = .inl (.inr y) := Den.inj hd (show Den prog w s.heap _ (.inl (.inr y)) from hz')
      exact ⟨p, this ▸ hz⟩
    cases hf : es.findIdx? (fun e => e.key.isStr y) with
    | none =>
      refine wpAny_pure (hnone (none_of fun j p hj => ?_))
      have hj' : es[j]? = some (entD (prog := prog) (w := w) (.inl (.inr y), p)) := by rw [at_ j, hj]; rfl
      have h1 := Array.findIdx?_eq_none_iff.mp hf _ (Array.mem_of_getElem? hj')
      have h2 : Den prog w s.heap p.1 (.inl (.inr y)) := hk _ (List.mem_of_getElem? hj)
      have h3 : p.1.isStr y = true := (isStr_of _ _).trans h2
      rw [show (entD (prog := prog) (w := w) (.inl (.inr y), p)).key = p.1 from rfl, h3] at h1
      cases h1
    | some i =>
      obtain ⟨hlt, hi, _⟩ := Array.findIdx?_eq_some_iff_getElem.mp hf
      have hei : es[i]? = some es[i] := Array.getElem?_eq_getElem hlt
      obtain ⟨p, hp⟩ := same i _ hei hi
      obtain ⟨z, p', hz, _, hzd⟩ := dat i _ hei
      rw [hp] at hz
      cases hz
      simp only [hei]
      refine wpAny_bind (wpAny_dictEpoch ho hd (wpAny_bind (Den.eqAt hu hzd hx (wpAny_bind (wpAny_dictEpoch ho hd ?_)))))
      rw [if_neg (by simp), decide_eq_true rfl]
      exact wpAny_bind (wpAny_rule (wpAny_pure (hsome i _ hp)))
  have nochange : ∀ a, key = .ref a → ¬ (es.any fun e => e.key == Value.ref a && e.hash != hashD prog w x) = true := by
    rintro a rfl hc
    rw [← Array.any_toList, List.any_eq_true] at hc
    obtain ⟨e, hin, hc⟩ := hc
    obtain ⟨i, hi⟩ := List.mem_iff_getElem?.mp hin
    rw [Array.getElem?_toList] at hi
    obtain ⟨y, p, _, rfl, hy⟩ := dat i e hi
    simp only [Bool.and_eq_true, beq_iff_eq, bne_iff_ne, ne_eq] at hc
    rw [hc.1] at hy
    exact hc.2 (by rw [show x = y from Den.inj hx hy]; rfl)
  have kinds : (∃ n t, key = .int n t) ∨ (∃ y t, key = .str y t ∧ x = .inl (.inr y)) ∨ ∃ a, key = .ref a := by
    rcases x with (n | y) | ks
    · obtain ⟨t, e⟩ := at_int hx; exact .inl ⟨n, t, e⟩
    · obtain ⟨t, e⟩ := at_str hx; exact .inr (.inl ⟨y, t, e, rfl⟩)
    · obtain ⟨a, e, _⟩ := hx; exact .inr (.inr ⟨a, e⟩)
  rcases kinds with ⟨n, t, rfl⟩ | ⟨y, t, rfl, hxy⟩ | ⟨a, rfl⟩
  case' inl =>
    dsimp only
    refine wpAny_ite_split (fun _ => plain) (fun _ => ?_)
    refine wpAny_ite_split (fun _ => wpAny_bind (wpAny_pure ?_)) (fun _ => wpAny_bind (tellsNot hx stored ?_))
    all_goals rw [if_neg (by simp)]
  case' inr.inl =>
    dsimp only
    refine wpAny_ite_split (fun hs => found y t hxy rfl hs) (fun _ => ?_)
    refine wpAny_ite_split (fun _ => plain) (fun _ => ?_)
    refine wpAny_ite_split (fun _ => wpAny_bind (wpAny_pure ?_)) (fun _ => wpAny_bind (tellsNot hx stored ?_))
    all_goals rw [if_neg (by simp)]
  case' inr.inr =>
    dsimp only
    refine wpAny_ite_split (fun h => absurd h (by simp [carriedByValue])) (fun _ => ?_)
    rw [if_neg (nochange a rfl)]
    refine wpAny_ite_split (fun _ => wpAny_bind (wpAny_pure ?_)) (fun _ => wpAny_bind (tellsNot hx stored ?_))
    all_goals rw [if_neg (by simp)]
  all_goals
    refine wpAny_bind ?_
    refine wpAny_forIn_list _ (fun rest b s' => s' = s ∧ ∃ hit, b = (none, hit) ∧ ∃ pre, placesWithHash es.size (fun i => es[i]?.map (·.hash)) (hashD prog w x) = pre ++ rest ∧
      ((hit = none ∧ ∀ i ∈ pre, ∀ p, xs[i]? ≠ some (x, p)) ∨ ∃ j p, hit = some j ∧ j ∈ pre ∧ xs[j]? = some (x, p))) _ ?_ ?_ _ _ ⟨rfl, none, rfl, [], rfl, .inl ⟨rfl, fun _ h => nomatch h⟩⟩
    · rintro i rest b s' ⟨rfl, hit, rfl, pre, hp, hH⟩
      have him : i ∈ placesWithHash es.size (fun i => es[i]?.map (·.hash)) (hashD prog w x) := by rw [hp]; simp
      have hnd : (pre ++ i :: rest).Nodup := hp ▸ nodup_places
      have hipre : i ∉ pre := fun h => (List.nodup_append.mp hnd).2.2 i h i (List.mem_cons_self ..) rfl
      obtain ⟨e, hei, heh⟩ := mem_places.mp him
      obtain ⟨y', p, hxi, rfl, hy⟩ := dat i e hei
      simp only [hei]
      rw [if_pos (by simpa using heh)]
      refine wpAny_bind (wpAny_dictEpoch ho hd (wpAny_bind (Den.eqAt hu hy hx (wpAny_bind (wpAny_dictEpoch ho hd ?_)))))
      rw [if_neg (by simp)]
      by_cases hyx : y' = x
      · subst hyx
        rw [decide_eq_true rfl]
        rcases hH with ⟨h0, hno⟩ | ⟨j, q, h1, hj, hq⟩
        · subst h0
          simp only [Option.isSome_none, Bool.false_eq_true, if_false, if_true]
          refine wpAny_bind (wpAny_rule ?_)
          split
          · exact wpAny_pure (wpAny_pure (hsome i p hxi))
          · exact wpAny_pure ⟨rfl, some i, rfl, pre ++ [i], by rw [hp]; simp, .inr ⟨i, p, rfl, by simp, hxi⟩⟩
        · exact absurd (key_unique hn hq hxi ▸ hj) hipre
      · rw [decide_eq_false hyx]
        simp only [Bool.false_eq_true, if_false, Bool.false_and]
        refine wpAny_bind (wpAny_rule (wpAny_pure ⟨rfl, hit, rfl, pre ++ [i], by rw [hp]; simp, ?_⟩))
        rcases hH with ⟨h0, hno⟩ | ⟨j, q, h1, hj, hq⟩
        · refine .inl ⟨h0, fun j hj q hq => ?_⟩
          rcases List.mem_append.mp hj with hj | hj
          · exact hno j hj q hq
          · have := List.mem_singleton.mp hj
            subst this
            rw [hxi] at hq
            cases hq
            exact hyx rfl
        · exact .inr ⟨j, q, h1, List.mem_append_left _ hj, hq⟩
    · rintro b s' ⟨rfl, hit, rfl, pre, hp, hH⟩
      rcases hH with ⟨rfl, hno⟩ | ⟨j, q, rfl, hj, hq⟩
      · refine wpAny_pure (hnone (none_of fun j p hj => hno j ?_ p hj))
        have := hits j p hj
        rw [hp, List.append_nil] at this
        exact this
      · exact wpAny_pure (hsome j q hq)
end
end Mine

-- part MB
open PySem PySem.W PyProof.Rows PySem.Calls
set_option Elab.async false
namespace Mine
/-- is the datum among these -/
def inD (x : Dt) (ds : List Dt) : Bool := ds.any fun y => decide (y = x)
theorem inD_true {x : Dt} {ds : List Dt} (h : x ∈ ds) : inD x ds = true := List.any_eq_true.mpr ⟨x, h, decide_eq_true rfl⟩
theorem inD_false {x : Dt} {ds : List Dt} (h : x ∉ ds) : inD x ds = false := by
  cases q : inD x ds with
  | false => rfl
  | true =>
    obtain ⟨y, hy, e⟩ := List.any_eq_true.mp q
    exact absurd (of_decide_eq_true e ▸ hy) h
theorem inD_iff {x : Dt} {ds : List Dt} : inD x ds = true ↔ x ∈ ds :=
  ⟨fun h => Classical.byContradiction fun n => (by rw [inD_false n] at h; cases h), inD_true⟩
section
variable (prog : Program) (w : World)
/-- the dict that tells each datum of ds its place -/
def DictI (P : Addr → Obj → Prop) (od : Obj) (ds : List Dt) : Prop :=
  ∃ es ep, ∃ xs : List (Dt × Value × Value), od = ⟨.type "dict", none, .dict es ep, #[]⟩ ∧ es.toList = xs.map (entD (prog := prog) (w := w)) ∧ (∀ p ∈ xs, DenP prog w P p.2.1 p.1) ∧
    xs.map (·.1) = ds ∧ ds.Nodup ∧ ∀ (i : Nat) (p : Dt × Value × Value), xs[i]? = some p → ∃ t, p.2.2 = .int i t
end
section
variable {prog : Program} {w : World} {A : Around} {E : Value → Shared → Prop} {s : Shared} {P : Addr → Obj → Prop} {od : Obj} {ds : List Dt} {d : Addr} {v : Value} {x : Dt}

theorem DictI.mono {P' : Addr → Obj → Prop} (h : DictI prog w P od ds) (k : ∀ b o, P b o → o.cls = .type "tuple" → P' b o) : DictI prog w P' od ds :=
  let ⟨es, ep, xs, a, b, c, r⟩ := h; ⟨es, ep, xs, a, b, fun p hp => (c p hp).mono k, r⟩
theorem DictI.nil : DictI prog w P { cls := .type "dict", data := .dict #[] } [] :=
  ⟨#[], 0, [], rfl, rfl, fun _ h => (nomatch h), rfl, List.nodup_nil, fun _ _ h => by simp at h⟩
theorem DictI.cls (h : DictI prog w P od ds) : od.cls = .type "dict" := let ⟨_, _, _, a, _⟩ := h; a ▸ rfl
theorem DictI.nodup (h : DictI prog w P od ds) : ds.Nodup := let ⟨_, _, _, _, _, _, _, n, _⟩ := h; n

theorem get_D {Q : Option Value → Shared → Prop} (hu : A.units < cLine) (ho : s.heap.get? d = some od) (hD : DictI prog w P od ds) (hP : TupsIn P s.heap) (hx : DenP prog w P v x)
    (h0 : x ∉ ds → ∀ tk, Q none { s with toks := tk }) (h1 : ∀ i : Nat, ds[i]? = some x → ∀ t tk, Q (some (.int i t)) { s with toks := tk }) :
    wpAny (model prog w) A (dictGet d v) Q E s := by
  obtain ⟨es, ep, xs, rfl, he, hk, hm, hn, hv⟩ := hD
  unfold dictGet
  try with_reducible refine wpAny_holding ?_
  refine wpAny_bind ((hx.den hP).pyHash hu fun tk => ?_)
  refine wpAny_bind (dictFind_D (s := { s with toks := tk }) hu (hx.den hP) ho rfl he (fun p hp => (hk p hp).den hP) (hm ▸ hn) (fun hno => ?_) (fun j p hj => ?_))
  · exact wpAny_pure (h0 (hm ▸ hno) tk)
  · refine wpAny_bind (wpAny_dictEntries (s := { s with toks := tk }) ho rfl ?_)
    obtain ⟨t, ht⟩ := hv j _ hj
    rw [ent_at (prog := prog) (w := w) he j, hj]
    refine wpAny_pure ?_
    show Q (some p.2) _
    rw [show p.2 = .int j t from ht]
    exact h1 j (by rw [← hm, List.getElem?_map, hj]; rfl) t tk

theorem contains_D {Q : Bool → Shared → Prop} (hu : A.units + 1 < cLine) (lo : (d == sysModules) = false) (ho : s.heap.get? d = some od) (hD : DictI prog w P od ds) (hP : TupsIn P s.heap) (hx : DenP prog w P v x)
    (h : ∀ tk, Q (inD x ds) { s with toks := tk }) : wpAny (model prog w) A (contains (.ref d) v) Q E s := by
  have hT : s.TypeIs (.ref d) "dict" := ⟨od, ho, hD.cls⟩
  unfold contains
  try with_reducible refine wpAny_holding ?_
  refine wpAny_bind (wpAny_specialOf hT slot_dict_contains.lookup ?_)
  rw [if_neg (by rw [beq_builtin_none]; exact Bool.false_ne_true)]
  refine wpAny_bind (wpAny_callSpecialUnlessNone?_slot (name := Str.ofString "__contains__") hT slot_dict_contains
    (wpAny_call_entry slot_dict_contains hT entry_dict_contains ?_ (args_dict_contains _ _)))
  show wpAny _ _ (dictGet d v >>= _) _ _ s
  refine wpAny_bind (get_D (A := A.in1) hu ho hD hP hx (fun hno tk => ?_) (fun i hi t tk => ?_))
  · show wpAny _ _ (Builtin.Dict.pendingKey? d v >>= _) _ _ _
    refine wpAny_bind (wpAny_pendingKey_other lo (wpAny_pure ⟨_, rfl, wpAny_truthy_bool ?_⟩))
    have := h tk
    rwa [inD_false hno] at this
  · refine wpAny_pure ⟨_, rfl, wpAny_truthy_bool ?_⟩
    have := h tk
    rwa [inD_true (List.mem_of_getElem? hi)] at this
theorem in_D {Q : Value → Shared → Prop} (hu : A.units + 1 < cLine) (lo : (d == sysModules) = false) (ho : s.heap.get? d = some od) (hD : DictI prog w P od ds) (hP : TupsIn P s.heap) (hx : DenP prog w P v x)
    (h : ∀ tk, Q (.bool (inD x ds)) { s with toks := tk }) : wpAny (model prog w) A (compareOp .In v (.ref d)) Q E s :=
  wpAny_bind (contains_D hu lo ho hD hP hx fun tk => wpAny_pure (h tk))
theorem notIn_D {Q : Value → Shared → Prop} (hu : A.units + 1 < cLine) (lo : (d == sysModules) = false) (ho : s.heap.get? d = some od) (hD : DictI prog w P od ds) (hP : TupsIn P s.heap) (hx : DenP prog w P v x)
    (h : ∀ tk, Q (.bool (!inD x ds)) { s with toks := tk }) : wpAny (model prog w) A (compareOp .NotIn v (.ref d)) Q E s :=
  wpAny_bind (contains_D hu lo ho hD hP hx fun tk => wpAny_pure (h tk))

theorem getItem_D {Q : Value → Shared → Prop} (hu : A.units + 1 < cLine) (ho : s.heap.get? d = some od) (hD : DictI prog w P od ds) (hP : TupsIn P s.heap) (hx : DenP prog w P v x) (hm : x ∈ ds)
    (h : ∀ i : Nat, ds[i]? = some x → ∀ t tk, Q (.int i t) { s with toks := tk }) : wpAny (model prog w) A (getItem (.ref d) v) Q E s := by
  have hT : s.TypeIs (.ref d) "dict" := ⟨od, ho, hD.cls⟩
  unfold getItem
  try with_reducible refine wpAny_holding ?_
  refine wpAny_bind (wpAny_sequenceKey hT (by decide) ?_)
  refine wpAny_bind (wpAny_callSpecial?_slot (name := Str.ofString "__getitem__") hT slot_dict_getitem
    (wpAny_call_entry slot_dict_getitem hT entry_dict_getitem ?_ (args_dict_getitem _ _)))
  show wpAny _ _ (dictGet d v >>= _) _ _ s
  exact wpAny_bind (get_D (A := A.in1) hu ho hD hP hx (fun hno _ => absurd hm hno) fun i hi t tk => wpAny_pure ⟨_, rfl, wpAny_pure (h i hi t tk)⟩)

theorem setItem_D {Q : Unit → Shared → Prop} {t : Tok} (hu : A.units + 1 < cLine) (ho : s.heap.get? d = some od) (hD : DictI prog w P od ds) (hP : TupsIn P s.heap) (hx : DenP prog w P v x) (hm : x ∉ ds) (hz : ds.length ≤ sizeLine)
    (h : ∀ h' od' tk, DictI prog w P od' (ds ++ [x]) → h'.get? d = some od' → Heap.SameBut d s.heap h' → (∃ f, h' = s.heap.update d f ∧ f od = od') → Q () { s with heap := h', toks := tk }) :
    wpAny (model prog w) A (setItem (.ref d) v (.int ds.length t)) Q E s := by
  have hT : s.TypeIs (.ref d) "dict" := ⟨od, ho, hD.cls⟩
  unfold setItem
  try with_reducible refine wpAny_holding ?_
  refine wpAny_bind (wpAny_sequenceKey hT (by decide) ?_)
  refine wpAny_bind (wpAny_callSpecial?_slot (name := Str.ofString "__setitem__") hT slot_dict_setitem
    (wpAny_call_entry slot_dict_setitem hT entry_dict_setitem ?_ (args_dict_setitem _ _ _)))
  show wpAny _ _ (Builtin.Dict.notOrdered "__setitem__" ⟨[.ref d, v, .int ds.length t], []⟩ >>= _) _ _ s
  refine wpAny_bind (wpAny_notOrdered_dict hT ?_)
  show wpAny _ _ (dictSet d v (.int ds.length t) >>= _) _ _ s
  obtain ⟨es, ep, xs, rfl, he, hk, hkeys, hn, hv⟩ := hD
  refine wpAny_bind ?_
  unfold dictSet
  try with_reducible refine wpAny_holding ?_
  refine wpAny_bind ((hx.den hP).pyHash (A := A.in1) hu fun tk => ?_)
  unfold dictSetHashed
  try with_reducible refine wpAny_holding ?_
  refine wpAny_bind (dictFind_D (A := A.in1) (s := { s with toks := tk }) hu (hx.den hP) ho rfl he (fun p hp => (hk p hp).den hP) (hkeys ▸ hn) (fun hno => ?_) (fun j p hj => ?_))
  · have hlen : xs.length = ds.length := by rw [← hkeys, List.length_map]
    have hes : es.size = xs.length := by rw [← Array.length_toList, he, List.length_map]
    refine wpAny_bind (wpAny_rule (wpAny_updateDictKeys (s := { s with toks := tk }) ho rfl (wpAny_pure ⟨_, rfl, wpAny_pure (h _ _ tk ?_ (Heap.get?_update_self _ ho rfl) (Heap.SameBut.update ..) ⟨_, rfl, rfl⟩)⟩) (hz := by rw [hes, hlen]; exact hz)))
    refine ⟨es.push ⟨hashD prog w x, v, .int ds.length t⟩, ep + 1, xs ++ [(x, v, .int ds.length t)], rfl, ?_, ?_, by rw [List.map_append, hkeys]; rfl, ?_, ?_⟩
    · rw [Array.toList_push, he, List.map_append]; rfl
    · intro p hp
      rcases List.mem_append.mp hp with hp | hp
      · exact hk p hp
      · rw [List.mem_singleton.mp hp]; exact hx
    · rw [List.nodup_append]
      refine ⟨hn, List.pairwise_singleton _ _, fun a ha b hb => ?_⟩
      rw [List.mem_singleton.mp hb]
      exact fun e => hm (e ▸ ha)
    · intro i p hp
      rcases Nat.lt_or_ge i xs.length with hi | hi
      · rw [List.getElem?_append_left hi] at hp; exact hv i p hp
      · rw [List.getElem?_append_right hi] at hp
        have e0 : i - xs.length = 0 := by
          cases q : i - xs.length with
          | zero => rfl
          | succ n => rw [q] at hp; simp at hp
        rw [e0] at hp
        cases hp
        exact ⟨t, by rw [show i = ds.length by omega]⟩
  · exact absurd (hkeys ▸ List.mem_map.mpr ⟨_, List.mem_of_getElem? hj, rfl⟩) hm
end
end Mine

-- part MC
namespace Mine
-- the walker keeps the rules that it found as long as their number stays: a step under no local rule makes it look anew
theorem anewMC {w : PySem.World} {A : PySem.Around} {E : PySem.Value → PySem.Shared → Prop} {Q : PySem.Flow → PySem.Shared → Prop} {s : PySem.Shared} {env : PySem.Env} (h : PySem.wpAny (PySem.model PySem.Challenge.rw_aa5017_01.row.prog w) A (PySem.execs [] env) Q E s) :
    PySem.wpAny (PySem.model PySem.Challenge.rw_aa5017_01.row.prog w) A (PySem.execs [] env) Q E s := by
  first | (walk1; fail) | exact h
end Mine
open PySem PySem.W PyProof.Rows PySem.Calls
set_option Elab.async false
set_option maxRecDepth 100000
namespace Mine
abbrev pg : Program := PySem.Challenge.rw_aa5017_01.row.prog
abbrev TP (mean : ExcName → Option Value) (mg mb : Str → Option Value) (h : Heap) : Prop := Top hd.view_39 (looseW hd.view_39 [Str.ofString "IndexedList"]) mean mg mb h
abbrev Led := List (Addr × Obj)

/-- behind a call: what the callee left -/
def LeaveL (h₀ : Heap) (L : Addr) (m : Str → Option Value) (rest : Led) (g : Heap) (R : Result → Shared → Prop) (v : Value) (s' : Shared) : Prop :=
  ∃ L' m' fp, Fr g L' s'.heap m' ∧ News g L' s'.heap fp ∧ (Fr h₀ L s'.heap m → News h₀ L s'.heap (fp ++ rest) → (∀ b o, g.get? b = some o → s'.heap.get? b = some o) → R (.ok (.ret v)) s')

/-- what stands of the tuples that P tells: in the frozen part, or in the rest of the ledger -/
def PIn (P : Addr → Obj → Prop) (h₀ : Heap) (rest : Led) : Prop := ∀ b o, P b o → o.cls = .type "tuple" → h₀.get? b = some o ∨ (b, o) ∈ rest
theorem PIn.nil {P : Addr → Obj → Prop} {h₀ : Heap} (h : TupsIn P h₀) (rest : Led) : PIn P h₀ rest := fun b o p c => .inl (h b o p c)
theorem PIn.tups {P : Addr → Obj → Prop} {h₀ h : Heap} {L : Addr} {m : Str → Option Value} {news rest : Led} (p : PIn P h₀ rest) (F : Fr h₀ L h m) (N : News h₀ L h news) (hs : ∀ q ∈ rest, q ∈ news) : TupsIn P h :=
  fun b o q c => (p b o q c).elim (F.keep b o) fun hm => (N _ (hs _ hm)).1

section
variable {prog : Program} {w : World} {A₀ A : Around} {s : Shared} {base h₀ : Heap} {outer : List Env} {L : Addr} {m : Str → Option Value} {env : Env} {fp rest : Led} {K : Frag}
  {R : Result → Shared → Prop} {name qual : Str} {params : Arguments} {body : List Stmt} {scope : Scope} {dV kV doc pm cdv ct oc : Value} {an od : Option Addr} {osl : Array (Option Value)} {f : Addr} {args : Args} {binds : List (Str × Value)}
  {p : Program} {loose : List Str} {mean : ExcName → Option Value} {mg mb : Str → Option Value}

theorem enterL (B : Below A₀ base outer h₀) (F : Fr h₀ L s.heap m) (X₀ : K.In h₀) (N : News h₀ L s.heap (fp ++ rest)) (dis : ∀ q ∈ fp, ∀ r ∈ rest, q.1 ≠ r.1) (T : Top p loose mean mg mb h₀)
    (hA : A.frames = some (env :: outer)) (hf : env.frame = some L) (hke : env.scope.kind = .function)
    (ho : K.lookup f = some ⟨oc, od, .func (fnOf name qual params body scope dV kV doc pm an cdv ct), osl⟩) (hcd : codeIn K cdv qual = true) (hroom : A.depth < recursionLimit)
    (hbind : BindsTo s (fnOf name qual params body scope dV kV doc pm an cdv ct) args binds) (hloc : ∀ y ∈ binds, scope.names.lookup y.1 = some .local)
    (h : ∀ g L' h₁, h₀.StaysIn g → (∀ q ∈ rest, g.get? q.1 = some q.2) → Fr g L' h₁ (fun y => binds.reverse.lookup y) → News g L' h₁ fp → Below A base (env :: outer) g → K.In g → Top p loose mean mg mb g →
      (∀ b o, s.heap.get? b = some o → b ∉ fp.map (·.1) → g.get? b = some o) → (∀ q ∈ fp, q.1 < L') →
      wpAny (model prog w) (A.deeper (envOf qual scope L' f cdv)) (execs body (envOf qual scope L' f cdv))
        (fun fl s' => LeaveL h₀ L m rest g R (match fl with | .ret v => v | _ => .none) s')
        (fun e s' => wpAny (model prog w) (A.deeper (envOf qual scope L' f cdv)) (leaving (envOf qual scope L' f cdv) e) (fun _ s'' => R (.error e) s'') (fun e' s'' => R (.error e') s'') s')
        { s with heap := h₁, toks := s.toks + binds.length })
    (hco : scope.isCoroutine = false) (hgen : scope.isGenerator = false) (hk : scope.kind = .function)
    (hcell : ∀ x ∈ scope.names, x.2 ≠ .cell) : codeAny (model prog w) A (.call (.ref f) args) R s := by
  have Nf : News h₀ L s.heap fp := fun q hq => N q (List.mem_append_left _ hq)
  have Nr : News h₀ L s.heap rest := fun q hq => N q (List.mem_append_right _ hq)
  obtain ⟨FG, BG, st, _⟩ := groundX (R := R) B F Nf hA hf hke
  have hg : ∀ b o, s.heap.get? b = some o → b ∉ fp.map (·.1) → (hideAll s.heap (fp.map (·.1))).get? b = some o := fun b o e n => hideAll_get _ e n
  have hr : ∀ q ∈ rest, (hideAll s.heap (fp.map (·.1))).get? q.1 = some q.2 := fun q hq => hg _ _ (Nr q hq).1 fun hm => by
    obtain ⟨r, h1, h2⟩ := List.mem_map.mp hm
    exact dis r h1 q hq h2
  refine codeAny_call_def (fd := fnOf name qual params body scope dV kV doc pm an cdv ct) (body := body) (binds := binds) hroom ((X₀.keeps F.keep) _ _ ho) rfl (T.nolimit.keeps F.keep) (codeRec_of (X₀.keeps F.keep) hcd) rfl hbind hcell hloc (fun h₁ hns hk₁ => ?_) hco hgen hk
  refine wpAny_mono (h _ s.heap.objs.size h₁ st hr ⟨hns, fun b o e => hk₁ b o (of_hideAll _ e), Nat.le_of_eq (hideAll_size _ _)⟩
    (fun q hq => ⟨hk₁ _ _ (Nf q hq).1, Nat.ne_of_lt (Heap.lt_size (Nf q hq).1), hideAll_none _ (List.mem_map_of_mem hq)⟩) BG (X₀.keeps st) (T.keeps st) hg (fun q hq => Heap.lt_size (Nf q hq).1)) (fun fl s' hl => ?_) fun _ _ y => y
  obtain ⟨L', m', fp', F', N', k⟩ := hl
  refine k ⟨FG.ns.keeps F'.keep, fun b o e => F'.keep b o (FG.keep b o e), FG.above⟩ (fun q hq => ?_) F'.keep
  rcases List.mem_append.mp hq with hq | hq
  · refine ⟨(N' q hq).1, fun e => ?_, ?_⟩
    · obtain ⟨oL, _, _, hL, _⟩ := FG.ns
      have := (N' q hq).2.2
      rw [e, hL] at this; cases this
    · cases z : h₀.get? q.1 with
      | none => rfl
      | some o => have := (N' q hq).2.2; rw [st _ _ z] at this; cases this
  · exact ⟨F'.keep _ _ (hr q hq), (Nr q hq).2⟩
end
theorem LeaveL.intro {h₀ g : Heap} {L L' : Addr} {m m' : Str → Option Value} {rest fp : Led} {R : Result → Shared → Prop} {v : Value} {s' : Shared} (F' : Fr g L' s'.heap m') (N' : News g L' s'.heap fp)
    (k : Fr h₀ L s'.heap m → News h₀ L s'.heap (fp ++ rest) → (∀ b o, g.get? b = some o → s'.heap.get? b = some o) → R (.ok (.ret v)) s') : LeaveL h₀ L m rest g R v s' := ⟨L', m', fp, F', N', k⟩

/-- the object of an IndexedList: its instance dict at ns -/
abbrev ilObj (ns : Addr) (items : List Value) (n : Nat) : Obj := ⟨.ref 68, some ns, .seq items.toArray n, #[]⟩
/-- its instance dict -/
abbrev nsObj (w : World) (t1 t2 : Tok) (b : Bool) (d : Addr) : Obj :=
  dictOf [⟨PyData.keyHash w.params (Str.ofString "clean"), .str (Str.ofString "clean") t1, .bool b⟩, ⟨PyData.keyHash w.params (Str.ofString "_dict"), .str (Str.ofString "_dict") t2, .ref d⟩] 2

/-- these values stand for these data -/
inductive Dens (w : World) (P : Addr → Obj → Prop) : List Value → List Dt → Prop
  | nil : Dens w P [] []
  | cons {v : Value} {x : Dt} {vs : List Value} {xs : List Dt} : DenP pg w P v x → Dens w P vs xs → Dens w P (v :: vs) (x :: xs)
theorem Dens.length {w : World} {P : Addr → Obj → Prop} {vs : List Value} {xs : List Dt} (h : Dens w P vs xs) : vs.length = xs.length := by
  induction h with
  | nil => rfl
  | cons _ _ ih => simp [ih]
theorem Dens.mono {w : World} {P P' : Addr → Obj → Prop} {vs : List Value} {xs : List Dt} (h : Dens w P vs xs) (k : ∀ b o, P b o → o.cls = .type "tuple" → P' b o) : Dens w P' vs xs := by
  induction h with
  | nil => exact .nil
  | cons a _ ih => exact .cons (a.mono k) ih
theorem Dens.snoc {w : World} {P : Addr → Obj → Prop} {vs : List Value} {xs : List Dt} {v : Value} {x : Dt} (h : Dens w P vs xs) (a : DenP pg w P v x) : Dens w P (vs ++ [v]) (xs ++ [x]) := by
  induction h with
  | nil => exact .cons a .nil
  | cons b _ ih => exact .cons b ih
theorem Dens.get {w : World} {P : Addr → Obj → Prop} {vs : List Value} {xs : List Dt} (h : Dens w P vs xs) : ∀ (i : Nat) (v : Value), vs[i]? = some v → ∃ x, xs[i]? = some x ∧ DenP pg w P v x := by
  induction h with
  | nil => intro i v e; simp at e
  | @cons u x us xs a _ ih =>
    intro i v e
    cases i with
    | zero => simp only [List.getElem?_cons_zero, Option.some.injEq] at e; subst e; exact ⟨x, rfl, a⟩
    | succ i => simpa using ih i v (by simpa using e)
theorem Dens.take {w : World} {P : Addr → Obj → Prop} {vs : List Value} {xs : List Dt} (h : Dens w P vs xs) (n : Nat) : Dens w P (vs.take n) (xs.take n) := by
  induction h generalizing n with
  | nil => simpa using Dens.nil
  | cons a _ ih =>
    cases n with
    | zero => exact .nil
    | succ n => simpa using Dens.cons a (ih n)
end Mine

-- part MS
namespace Mine
-- the walker keeps the rules that it found as long as their number stays: a step under no local rule makes it look anew
theorem anewMS {w : PySem.World} {A : PySem.Around} {E : PySem.Value → PySem.Shared → Prop} {Q : PySem.Flow → PySem.Shared → Prop} {s : PySem.Shared} {env : PySem.Env} (h : PySem.wpAny (PySem.model PySem.Challenge.rw_aa5017_01.row.prog w) A (PySem.execs [] env) Q E s) :
    PySem.wpAny (PySem.model PySem.Challenge.rw_aa5017_01.row.prog w) A (PySem.execs [] env) Q E s := by
  first | (walk1; fail) | exact h
end Mine
open PySem PySem.W PyProof.Rows PySem.Calls PySem.Builtin PySem.Builtin.ObjectAttr
set_option Elab.async false
set_option maxRecDepth 100000
namespace Mine
/-- an object that holds these items, of whatever class -/
def Holds (h : Heap) (a : Addr) (items : Array Value) : Prop := ∃ o n, h.get? a = some o ∧ o.data = .seq items n
theorem Holds.at {h h' : Heap} {a : Addr} {items : Array Value} (x : Holds h a items) (e : ∀ o, h.get? a = some o → h'.get? a = some o) : Holds h' a items := let ⟨o, n, ho, r⟩ := x; ⟨o, n, e _ ho, r⟩
section
variable {prog : Program} {w : World} {A : Around} {E : Value → Shared → Prop} {s : Shared}

theorem next_item {it l : Addr} {i : Nat} {items : Array Value} {x : Value} {Q : Option Value → Shared → Prop} (hit : s.heap.IsListIter it l i)
    (hl : Holds s.heap l items) (hx : items[i]? = some x)
    (hQ : ∀ h', h'.IsListIter it l (i + 1) → Heap.SameBut it s.heap h' → Q (some x) { s with heap := h' }) :
    wpAny (model prog w) A (pyNext (.ref it)) Q E s := by
  obtain ⟨o, ho, hc, hd⟩ := id hit
  obtain ⟨ol, nl, hol, hdl⟩ := hl
  unfold pyNext
  refine wpAny_bind (wpAny_attempt (wpAny_callSpecial?_slot (name := Str.ofString "__next__") hit.typeIs slot_listiter_next
    (wpAny_call_entry slot_listiter_next hit.typeIs entry_listiter_next ?_ (args_listiter_next _))))
  show wpAny _ _ (field (.ref it) 0 >>= _) _ _ s
  refine wpAny_bind (wpAny_field ho hd (x := .ref l) rfl ?_)
  rw [if_neg (show ¬ ((Value.ref l == Value.none) = true) from Bool.false_ne_true)]
  show wpAny _ _ (field (.ref it) 1 >>= _) _ _ s
  refine wpAny_bind (wpAny_field ho hd (x := .int i 0) rfl ?_)
  show wpAny _ _ (seqItems? (.ref l) >>= _) _ _ s
  refine wpAny_bind (wpAny_seqItems hol hdl ?_)
  simp only [Int.toNat_natCast, hx]
  refine wpAny_bind (wpAny_setField ho hd (by simp) (wpAny_pure ⟨x, rfl, wpAny_pure (hQ _ ?_ (Heap.SameBut.update ..))⟩))
  exact ⟨_, Heap.get?_update_self _ ho (Obj.isFreed_of_fields (Obj.data_mapFields hd _)), (Obj.cls_mapFields ..).trans hc, by
    rw [Obj.data_mapFields hd]; simp [rawInt]⟩

theorem next_end {it l : Addr} {i : Nat} {items : Array Value} {Q : Option Value → Shared → Prop} (hh : A.handled = none)
    (hit : s.heap.IsListIter it l i) (hl : Holds s.heap l items) (hx : items[i]? = none)
    (hQ : ∀ h', Heap.ExtBut it s.heap h' → Q none { s with heap := h' }) : wpAny (model prog w) A (pyNext (.ref it)) Q E s := by
  obtain ⟨o, ho, hc, hd⟩ := id hit
  obtain ⟨ol, nl, hol, hdl⟩ := hl
  unfold pyNext
  refine wpAny_bind (wpAny_attempt (wpAny_callSpecial?_slot (name := Str.ofString "__next__") hit.typeIs slot_listiter_next
    (wpAny_call_entry slot_listiter_next hit.typeIs entry_listiter_next ?_ (args_listiter_next _))))
  show wpAny _ _ (field (.ref it) 0 >>= _) _ _ s
  refine wpAny_bind (wpAny_field ho hd (x := .ref l) rfl ?_)
  rw [if_neg (show ¬ ((Value.ref l == Value.none) = true) from Bool.false_ne_true)]
  show wpAny _ _ (field (.ref it) 1 >>= _) _ _ s
  refine wpAny_bind (wpAny_field ho hd (x := .int i 0) rfl ?_)
  show wpAny _ _ (seqItems? (.ref l) >>= _) _ _ s
  refine wpAny_bind (wpAny_seqItems hol hdl ?_)
  simp only [Int.toNat_natCast, hx]
  refine wpAny_bind (wpAny_rule (wpAny_bind (wpAny_setField ho hd (by simp) ?_)))
  show wpAny _ _ (newExc (.type "StopIteration") [] >>= _) _ _ _
  refine wpAny_bind ?_
  simp only [newExc, newTuple]
  refine wpAny_bind (wpAny_newObj_type ?_ (by size_fits))
  refine wpAny_bind (m := firstArgMember _ _) (wpAny_of_eq (a := Value.none) (by first | rfl | (simp only [firstArgMember]; rfl)) ?_)
  refine wpAny_newObj_type ?_ (by size_fits)
  simp only [raiseNew]
  refine wpAny_bind (wpAny_handled ?_)
  rw [show A.in1.handled = none from hh]
  refine wpAny_bind (wpAny_pure (wpAny_throw ?_))
  refine wpAny_bind (wpAny_isInstance (T := "StopIteration") (b := true) ⟨_, Heap.get?_push_size _ rfl, rfl⟩ isSubtype_stop ?_)
  exact wpAny_pure (hQ _ (((Heap.SameBut.update ..).extBut.push _).push _))

theorem walksSeq (hh : A.handled = none) (I ax : Addr) (hne : ax ≠ I) (items : Array Value) :
    Walks prog w A I [I, ax] [I] items.size (fun i v => items[i]? = some v) (fun i h => h.IsListIter I ax i ∧ Holds h ax items) where
  sub := fun b hb => by simp at hb; simp [hb]
  frame := fun _ _ _ st hk => ⟨st.1.at fun o e => hk I (by simp) o e, st.2.at fun o e => hk ax (by simp) o e⟩
  item := fun i s Q E hi st hQ => by
    refine next_item st.1 st.2 (x := items[i]) (by simp [hi]) fun h' hit' hs' => ?_
    exact hQ _ h' s.toks (by simp [hi]) ⟨hit', st.2.at fun o e => (hs'.2 _ hne).trans e⟩ fun b o hb e => hs'.extBut b o (fun h => hb (by simp [h])) e
  done := fun s Q E st hQ => next_end hh st.1 st.2 (by simp) fun h' he' => hQ h' s.toks fun b o hb e => he' b o (fun h => hb (by simp [h])) e
  self := fun _ _ _ _ st hQ => wpAny_pyIter_listiter st.1 hQ

theorem nextOf_item {it l : Addr} {i : Nat} {items : Array Value} {x : Value} {Q : Value → Shared → Prop} (hit : s.heap.IsListIter it l i)
    (hl : Holds s.heap l items) (hx : items[i]? = some x)
    (hQ : ∀ h', h'.IsListIter it l (i + 1) → Heap.SameBut it s.heap h' → Q x { s with heap := h' }) :
    wpAny (model prog w) A (Builtin.SmallTypes.nextOf (.ref it)) Q E s := by
  obtain ⟨o, ho, hc, hd⟩ := id hit
  obtain ⟨ol, nl, hol, hdl⟩ := hl
  unfold Builtin.SmallTypes.nextOf
  refine wpAny_bind (wpAny_callSpecial?_slot (name := Str.ofString "__next__") hit.typeIs slot_listiter_next
    (wpAny_call_entry slot_listiter_next hit.typeIs entry_listiter_next ?_ (args_listiter_next _)))
  show wpAny _ _ (field (.ref it) 0 >>= _) _ _ s
  refine wpAny_bind (wpAny_field ho hd (x := .ref l) rfl ?_)
  rw [if_neg (show ¬ ((Value.ref l == Value.none) = true) from Bool.false_ne_true)]
  show wpAny _ _ (field (.ref it) 1 >>= _) _ _ s
  refine wpAny_bind (wpAny_field ho hd (x := .int i 0) rfl ?_)
  show wpAny _ _ (seqItems? (.ref l) >>= _) _ _ s
  refine wpAny_bind (wpAny_seqItems hol hdl ?_)
  simp only [Int.toNat_natCast, hx]
  refine wpAny_bind (wpAny_setField ho hd (by simp) (wpAny_pure ⟨x, rfl, wpAny_pure (hQ _ ?_ (Heap.SameBut.update ..))⟩))
  exact ⟨_, Heap.get?_update_self _ ho (Obj.isFreed_of_fields (Obj.data_mapFields hd _)), (Obj.cls_mapFields ..).trans hc, by
    rw [Obj.data_mapFields hd]; simp [rawInt]⟩

theorem nextOf_end {it l : Addr} {i : Nat} {items : Array Value} {Q : Value → Shared → Prop} (hh : A.handled = none)
    (hit : s.heap.IsListIter it l i) (hl : Holds s.heap l items) (hx : items[i]? = none)
    (hE : ∀ h' e, Heap.ExtBut it s.heap h' → (∃ o, h'.get? e = some o ∧ o.cls = .type "StopIteration") → E (.ref e) { s with heap := h' }) :
    wpAny (model prog w) A (Builtin.SmallTypes.nextOf (.ref it)) Q E s := by
  obtain ⟨o, ho, hc, hd⟩ := id hit
  obtain ⟨ol, nl, hol, hdl⟩ := hl
  unfold Builtin.SmallTypes.nextOf
  refine wpAny_bind (wpAny_callSpecial?_slot (name := Str.ofString "__next__") hit.typeIs slot_listiter_next
    (wpAny_call_entry slot_listiter_next hit.typeIs entry_listiter_next ?_ (args_listiter_next _)))
  show wpAny _ _ (field (.ref it) 0 >>= _) _ _ s
  refine wpAny_bind (wpAny_field ho hd (x := .ref l) rfl ?_)
  rw [if_neg (show ¬ ((Value.ref l == Value.none) = true) from Bool.false_ne_true)]
  show wpAny _ _ (field (.ref it) 1 >>= _) _ _ s
  refine wpAny_bind (wpAny_field ho hd (x := .int i 0) rfl ?_)
  show wpAny _ _ (seqItems? (.ref l) >>= _) _ _ s
  refine wpAny_bind (wpAny_seqItems hol hdl ?_)
  simp only [Int.toNat_natCast, hx]
  refine wpAny_bind (wpAny_rule (wpAny_bind (wpAny_setField ho hd (by simp) ?_)))
  show wpAny _ _ (newExc (.type "StopIteration") [] >>= _) _ _ _
  refine wpAny_bind ?_
  simp only [newExc, newTuple]
  refine wpAny_bind (wpAny_newObj_type ?_ (by size_fits))
  refine wpAny_bind (m := firstArgMember _ _) (wpAny_of_eq (a := Value.none) (by first | rfl | (simp only [firstArgMember]; rfl)) ?_)
  refine wpAny_newObj_type ?_ (by size_fits)
  simp only [raiseNew]
  refine wpAny_bind (wpAny_handled ?_)
  rw [show A.in1.handled = none from hh]
  refine wpAny_bind (wpAny_pure (wpAny_throw ?_))
  exact hE _ _ (((Heap.SameBut.update ..).extBut.push _).push _) ⟨_, Heap.get?_push_size _ rfl, rfl⟩

theorem drawsSeq (hh : A.handled = none) (I ax : Addr) (hne : ax ≠ I) (items : Array Value) :
    Draws prog w A I [I, ax] items.size (fun i v => items[i]? = some v) (fun i h => h.IsListIter I ax i ∧ Holds h ax items) where
  live := fun i h st => let ⟨o, ho, _⟩ := st.1; ⟨o, ho⟩
  frame := fun _ _ _ st hk => ⟨st.1.at fun o e => hk I (by simp) o e, st.2.at fun o e => hk ax (by simp) o e⟩
  item := fun i s Q E hi st hQ => by
    refine nextOf_item st.1 st.2 (x := items[i]) (by simp [hi]) fun h' hit' hs' => ?_
    exact hQ _ h' s.toks (by simp [hi]) ⟨hit', st.2.at fun o e => (hs'.2 _ hne).trans e⟩ hs'
  done := fun s Q E st hE => nextOf_end hh st.1 st.2 (by simp) hE
end

/-- the run of a built-in method of list on an object of a class that is list's heir -/
theorem call_sub {prog : Program} {w : World} {A : Around} {E : Value → Shared → Prop} {s : Shared} {id n : String} {Bf : Builtin} {self : Value} {rest : List Value} {Q : Value → Shared → Prop}
    (hk : builtinKind id = some .slot ∨ builtinKind id = some .method) (hs : splitId id = some ("list", n)) (pl : plainId id = true) (en : entryFor table id = some Bf) (ar : argsOk id ⟨self :: rest, []⟩)
    (hi : Looks (model prog w) s.heap (isInstance self (.type "list")) true)
    (h : wpAny (model prog w) A.in1 (Bf ⟨self :: rest, []⟩) (fun fin s' => match fin with | .done f => wants Q E (.ok f) s' | .again c' => c'.quiet = true ∧ codeAny (model prog w) A c' (wants Q E) s') (fun e s' => E e s') s) :
    wpAny (model prog w) A (call (.builtin id) (self :: rest)) Q E s := by
  refine wpAny_call (codeAny_call_builtin pl en ?_)
  have fin : wpAny (model prog w) A.in1 (match Manifest.signature? id with | some sig => Bind.checkArgs id sig ⟨self :: rest, []⟩ | none => pure ())
      (fun _ s₁ => wpAny (model prog w) A.in1 (Bf ⟨self :: rest, []⟩) (fun fin s' => match fin with | .done f => wants Q E (.ok f) s' | .again c' => c'.quiet = true ∧ codeAny (model prog w) A c' (wants Q E) s') (fun e s' => E e s') s₁) (fun e s' => E e s') s := wpAny_of_eq ar h
  rcases hk with hk | hk
  · simp only [checkBuiltinCall, hk, hs]
    refine wpAny_bind (hi.here ?_)
    simp only [Bool.not_true, Bool.false_eq_true, if_false]
    cases hsig : Manifest.signature? id with
    | none => rw [hsig] at fin; exact fin
    | some sig => rw [hsig] at fin; exact fin
  · simp only [checkBuiltinCall, hk, hs]
    refine wpAny_bind (hi.here ?_)
    simp only [Bool.not_true, Bool.false_eq_true, if_false]
    cases hsig : Manifest.signature? id with
    | none => rw [hsig] at fin; exact fin
    | some sig => rw [hsig] at fin; exact fin

theorem fills : True ∧ (PySem.Challenge.rw_aa5017_01, hd.heap_39) = (PySem.Challenge.rw_aa5017_01, hd.heap_39) := ⟨trivial, by k_fill; rfl⟩
theorem sub_list (P : Params) : subIn (hd.heap_39 P) (.ref 68) (.type "list") = some true := by k_is
theorem own_ga (P : Params) : findIn (hd.heap_39 P) (.ref 68) "__getattribute__" = some (some (.builtin "list.__getattribute__")) := by k_is
theorem own_hook (P : Params) : findIn (hd.heap_39 P) (.ref 68) "__getattr__" = some none := by k_is
theorem own_len (P : Params) : findIn (hd.heap_39 P) (.ref 68) "__len__" = some (some (.builtin "list.__len__")) := by k_is
theorem own_iter (P : Params) : findIn (hd.heap_39 P) (.ref 68) "__iter__" = some (some (.builtin "list.__iter__")) := by k_is
theorem own_item (P : Params) : findIn (hd.heap_39 P) (.ref 68) "__getitem__" = some (some (.builtin "list.__getitem__")) := by k_is
theorem own_setattr (P : Params) : findIn (hd.heap_39 P) (.ref 68) "__setattr__" = some (some (.builtin "object.__setattr__")) := by k_is
theorem sub_object (P : Params) : subIn (hd.heap_39 P) (.ref 68) (.type "object") = some true := by k_is
theorem refuse_list (self : Value) : refuseLoop self "__setattr__" [.type "list", .type "object"] = pure () := by kernel_rfl
theorem own_cls (P : Params) : clsIn (hd.heap_39 P) 68 = some { name := Str.ofString "IndexedList", bases := [.type "list"], mro := [.ref 68, .type "list", .type "object"], ns := 67, qualname := Str.ofString "IndexedList" } := by rfl
theorem own_noSeq (P : Params) : noSeq (hd.heap_39 P) 68 = true := by k_is
theorem own_hasDict (P : Params) : hasDictIn (hd.heap_39 P) 68 = true := by k_is

section
variable {w : World} {A : Around} {E : Value → Shared → Prop} {s : Shared} {a ns : Addr} {items : List Value} {n k : Nat} {on : Obj}

theorem isi_il {M : Model} {h : Heap} (X : (hd.heap_39 w.params).In h) (I : InstAt h a (ilObj ns items n) 68 (some on)) : Looks M h (isInstance (.ref a) (.type "list")) true :=
  I.type.andThen (looks_subIn X (sub_list _))

theorem get_il {name : Str} {expr : Bool} {v : Value} {Q : Value → Shared → Prop} (X : (hd.heap_39 w.params).In s.heap) (I : InstAt s.heap a (ilObj ns items n) 68 (some on))
    (hf : findObj (hd.heap_39 w.params) 68 (some on) name = some (.value v)) (hh : handedIn v = true) (h : Q v { s with toks := s.toks + 1 }) :
    wpAny (model pg w) A (getAttr (.ref a) name expr) Q E s := by
  obtain ⟨hh', g, d, t, os⟩ := s
  have L0 := I.type (M := model pg w)
  have L1 := looks_findIn (M := model pg w) X (own_ga w.params)
  have L2 := looks_findIn (M := model pg w) X (own_hook w.params)
  have L3 := looks_find (M := model pg w) X I hf
  unfold getAttr getAttrBy
  refine wpAny_bind (wpAny_mkText (wpAny_holding (wpAny_bind (L0.at (wpAny_bind (L1.at ?_))))))
  dsimp only
  rw [if_neg (by decide)]
  unfold getAttrByItsOwn hookBefore
  refine wpAny_bind ?_
  rw [if_pos (show onTheHeap (.ref 68) = true from rfl)]
  refine L2.at (wpAny_bind (wpAny_attempt (wpAny_holding ?_)))
  unfold callGetattribute
  rw [if_neg (show ¬ (expr && onTheHeap (.builtin "list.__getattribute__")) = true by simp [onTheHeap])]
  unfold boundAndCalled
  rw [F.slot_list_getattribute.bind]
  refine wpAny_bind (wpAny_pure ?_)
  refine call_sub (n := "__getattribute__") (.inl (by decide +kernel)) (by decide +kernel) F.slot_list_getattribute.plain am_entry_list_getattribute (F.args_list_getattribute_2 _ _) (isi_il X I) ?_
  unfold Builtin.«object.__getattribute__»
  repeat lk
  all_goals (
    show wpAny _ _ (handedOut v) _ _ _
    rw [handedOut_of hh]
    exact wpAny_pure h)

theorem meth_il {name : Str} {f : Addr} {pl : Sem Bool} {Q : Value × List Value → Shared → Prop} (X : (hd.heap_39 w.params).In s.heap) (I : InstAt s.heap a (ilObj ns items n) 68 (some on))
    (hf : findIn (hd.heap_39 w.params) (.ref 68) name = some (some (.ref f))) (ht : isFn (hd.heap_39 w.params) (.ref f) = true) (hs : shadowIn (some on) name = some false) (h : Q (.ref f, [.ref a]) s) :
    wpAny (model pg w) A (getMethod (.ref a) name pl) Q E s := by
  have hcan : (Manifest.canonical "list.__getattribute__" != "object.__getattribute__") = false := by decide +kernel
  unfold getMethod specialOf
  refine wpAny_bind (wpAny_bind (I.type.here ((looks_findIn X (own_ga w.params)).here ?_)))
  dsimp only
  rw [hcan, if_neg (by decide)]
  refine wpAny_bind (wpAny_bind (I.type.here ((looks_findIn X (own_hook w.params)).here ?_)))
  refine wpAny_bind (wpAny_bind (I.type.here ((looks_findIn X hf).here (wpAny_bind ((looks_typeIn X (beq_iff_eq.mp ht)).here ?_)))))
  rw [if_neg (by decide +kernel)]
  refine wpAny_bind (wpAny_loadPart I.at_ ?_)
  have hd := I.dict
  dsimp only at hd
  obtain ⟨r, e1, e2⟩ := Option.map_eq_some_iff.mp hs
  refine wpAny_bind (wpAny_bind (wpAny_loadPart hd ?_))
  rw [nsLook_of e1]
  refine wpAny_pure ?_
  rw [e2]
  exact wpAny_bind (wpAny_rule (wpAny_pure h))

theorem special_il {name : Str} {id : String} {args : List Value} {Q : Option Value → Shared → Prop} (X : (hd.heap_39 w.params).In s.heap) (I : InstAt s.heap a (ilObj ns items n) 68 (some on))
    (hs : findIn (hd.heap_39 w.params) (.ref 68) name = some (some (.builtin id))) (hb : ∀ self, bindSpecial (.builtin id) self = pure (.builtin id, [self]))
    (h : wpAny (model pg w) A (call (.builtin id) (.ref a :: args)) (fun v => Q (some v)) E s) : wpAny (model pg w) A (callSpecial? (.ref a) name args) Q E s := by
  unfold callSpecial? specialOf
  refine wpAny_bind (wpAny_bind (I.type.here ((looks_findIn X hs).here ?_)))
  refine wpAny_holding ?_
  rw [hb]
  exact wpAny_bind (wpAny_pure (wpAny_bind (wpAny_mono h (fun _ _ z => wpAny_pure z) fun _ _ z => z)))

theorem slen_il {Q : Value → Shared → Prop} (X : (hd.heap_39 w.params).In s.heap) (I : InstAt s.heap a (ilObj ns items n) 68 (some on))
    (h : Q (.int items.length s.toks) { s with toks := s.toks + 1 }) : wpAny (model pg w) A (call (.builtin "list.__len__") [.ref a]) Q E s := by
  refine call_sub (n := "__len__") (.inl (by decide +kernel)) (by decide +kernel) slot_list_len.plain entry_list_len (args_list_len _) (isi_il X I) ?_
  have hx := I.at_
  show wpAny _ _ (seqSize a >>= fun k => retInt k) _ _ _
  unfold seqSize
  refine wpAny_bind (wpAny_bind (wpAny_loadPart hx (wpAny_pure ?_)))
  refine wpAny_bind (wpAny_mkInt (wpAny_pure ?_))
  simpa using h

theorem len_il {Q : Value → Shared → Prop} (X : (hd.heap_39 w.params).In s.heap) (I : InstAt s.heap a (ilObj ns items n) 68 (some on)) (hz : items.length ≤ 1000)
    (h : Q (.int items.length (s.toks + 1)) { s with toks := s.toks + 2 }) : wpAny (model pg w) A (call (.builtin "len") [.ref a]) Q E s := by
  refine Calls.call_function_entry kind_len plain_len entry_len (args_len1 _) ?_
  unfold Builtin.«len»
  refine wpAny_bind (m := oneArg "len" _) (wpAny_pure ?_)
  refine wpAny_bind (m := callSpecial? (.ref a) (Str.ofString "__len__")) (special_il X I (own_len w.params) slot_list_len.bind (slen_il X I ?_))
  refine wpAny_bind (wpAny_holding (wpAny_pure ?_))
  refine wpAny_bind (wpAny_letGo ?_)
  rw [if_neg (by omega), if_neg (by omega)]
  exact wpAny_bind (wpAny_mkInt (wpAny_pure ⟨_, rfl, h⟩))

theorem iter_il {Q : Value → Shared → Prop} (X : (hd.heap_39 w.params).In s.heap) (I : InstAt s.heap a (ilObj ns items n) 68 (some on))
    (h : Q (.ref s.heap.objs.size) { s with heap := s.heap.push { cls := .type "list_iterator", data := .fields #[.ref a, .int 0 0] } }) : wpAny (model pg w) A (pyIter (.ref a)) Q E s := by
  have made : wpAny (model pg w) A (call (.builtin "list.__iter__") [.ref a]) (fun it s' => it = .ref s.heap.objs.size ∧ s' = { s with heap := s.heap.push { cls := .type "list_iterator", data := .fields #[.ref a, .int 0 0] } }) E s := by
    refine call_sub (n := "__iter__") (.inl (by decide +kernel)) (by decide +kernel) slot_list_iter.plain entry_list_iter (args_list_iter _) (isi_il X I) ?_
    show wpAny _ _ (do ret (← newFields "list_iterator" [.ref a, rawInt 0])) _ _ s
    exact wpAny_bind (wpAny_newObj_type (wpAny_pure ⟨rfl, rfl⟩))
  unfold pyIter specialOf
  refine wpAny_bind (wpAny_bind (I.type.here ((looks_findIn X (own_iter w.params)).here ?_)))
  dsimp only
  unfold callSpecialIfBoundUnlessNone? bindSpecialIfBound? specialOf
  refine wpAny_bind (wpAny_holding (wpAny_bind (wpAny_bind (wpAny_bind (I.type.here ((looks_findIn X (own_iter w.params)).here ?_))))))
  dsimp only
  rw [slot_list_iter.bind]
  refine wpAny_bind (wpAny_askSetting ?_)
  refine wpAny_ite_split (fun _ => wpAny_bind (wpAny_pure (wpAny_pure ?_))) (fun _ => wpAny_tryCatch (wpAny_bind (wpAny_pure (wpAny_pure ?_))))
  all_goals (
    dsimp only
    rw [if_neg (by rw [builtin_beq_none]; exact Bool.false_ne_true)]
    refine wpAny_bind (wpAny_mono made (fun it s' hq => ?_) fun _ _ z => z)
    obtain ⟨rfl, rfl⟩ := hq
    refine wpAny_pure ?_
    exact wpAny_bind (wpAny_bind (wpAny_typeOf (T := "list_iterator") ⟨_, Heap.get?_push_size _ rfl, rfl⟩ (wpAny_of_eq slot_listiter_next.lookup (wpAny_pure h)))))

theorem item_il {i : Nat} {t : Tok} {x : Value} {Q : Value → Shared → Prop} (X : (hd.heap_39 w.params).In s.heap) (I : InstAt s.heap a (ilObj ns items n) 68 (some on)) (hi : i < 2 ^ 63) (hx : items[i]? = some x)
    (h : Q x s) : wpAny (model pg w) A (getItem (.ref a) (.int i t)) Q E s := by
  unfold getItem sequenceKey
  refine wpAny_holding (wpAny_bind (wpAny_bind (I.type.here ?_)))
  refine wpAny_bind ((anyM_none X (own_noSeq w.params)).here ?_)
  rw [if_pos (show (!false) = true from rfl)]
  refine wpAny_pure (wpAny_bind (special_il X I (own_item w.params) slot_list_getitem.bind ?_))
  have hfit : Builtin.List.listFitsIndex (i : Int) = true := fitsIndex_of (by omega) (by omega)
  clear hi
  refine call_sub (n := "__getitem__") (.inr (by decide +kernel)) (by decide +kernel) slot_list_getitem.plain entry_list_getitem (args_list_getitem _ _) (isi_il X I) ?_
  unfold Builtin.«list.__getitem__»
  with_reducible refine wpAny_bind ?_
  refine wpAny_pure ?_
  dsimp only
  with_reducible refine wpAny_bind ?_
  with_reducible refine wpAny_listSubscript_int hfit ?_
  dsimp only
  show wpAny _ _ ((seqItemAt a i >>= fun r => pure (r.map (i, ·))) >>= _) _ _ s
  refine wpAny_bind (wpAny_bind (wpAny_seqItemAt I.at_ rfl (wpAny_pure ?_)))
  rw [show (items.toArray)[i]? = some x by simpa using hx]
  exact wpAny_pure (wpAny_pure h)

theorem push_il {v : Value} : Obj.mapSeq (·.push v) (ilObj ns items n) = ilObj ns (items ++ [v]) (n + 1) := by
  simp [Obj.mapSeq, ilObj]

theorem append_il {v : Value} {L : Addr} {h₀ : Heap} {m : Str → Option Value} {news news' : Led} {Q : Value → Shared → Prop} (F : Fr h₀ L s.heap m) (X₀ : (hd.heap_39 w.params).In h₀) (N : News h₀ L s.heap news)
    (I : InstAt s.heap a (ilObj ns items n) 68 (some on)) (U : Upd a (ilObj ns items n) (ilObj ns (items ++ [v]) (n + 1)) news news') (hz : items.length ≤ 1000)
    (h : ∀ h', Fr h₀ L h' m → News h₀ L h' news' → Q .none { s with heap := h' }) : wpAny (model pg w) A (call (.builtin "list.append") [.ref a, v]) Q E s := by
  obtain ⟨pre, post, rfl, rfl, e1, e2⟩ := U.split
  refine call_sub (n := "append") (.inr (by decide +kernel)) (by decide +kernel) slot_list_append.plain entry_list_append (args_list_append _ _) (isi_il (X₀.keeps F.keep) I) ?_
  show wpAny _ _ (updateSeq a (·.push v) >>= fun _ => ret .none) _ _ s
  obtain ⟨F', N'⟩ := news_upd F N e1 e2 push_il rfl
  refine wpAny_bind (wpAny_updateSeq I.at_ rfl (wpAny_pure (h _ F' N')) (hz := by rw [List.size_toArray, sizeLine_eq]; omega) (_hz' := by rw [Array.size_push, List.size_toArray, sizeLine_eq]; omega))

theorem set_il {name : Str} {v : Value} {es es' : List DictEntry} {k' : Nat} {L : Addr} {h₀ : Heap} {m : Str → Option Value} {news news' : Led} {Q : Unit → Shared → Prop} (F : Fr h₀ L s.heap m) (X₀ : (hd.heap_39 w.params).In h₀) (N : News h₀ L s.heap news)
    (I : InstAt s.heap a (ilObj ns items n) 68 (some (dictOf es k))) (ht : takerIn (hd.heap_39 w.params) 68 name = some none) (hl : (getL name es).isSome = true)
    (e : (putL name (PyData.keyHash w.params name) (.str name (s.toks + 1)) v es, putN name es k) = (es', k')) (U : Upd ns (dictOf es k) (dictOf es' k') news news') (hz : es'.length ≤ 1000)
    (h : ∀ h', Fr h₀ L h' m → News h₀ L h' news' → Q () { s with heap := h', toks := s.toks + 2 }) : wpAny (model pg w) A (setAttr (.ref a) name v) Q E s := by
  obtain ⟨pre, post, rfl, rfl, e1, e2⟩ := U.split
  obtain ⟨q1, q2⟩ := Prod.mk.inj e
  have X := X₀.keeps F.keep
  have SF := PySem.F.store_object
  refine set_plain X I (own_setattr w.params) ?_
  obtain ⟨cd, hc, hd'⟩ := any_some (own_hasDict w.params)
  have hsub : Looks (model pg w) s.heap (isInstance (.ref a) (.type "object")) true := I.type.andThen (looks_subIn X (sub_object w.params))
  refine codeAny_call_builtin SF.slot.plain SF.entry (@check_slot (model pg w) _ _ { s with toks := s.toks + 1 } "object.__setattr__" "object" "__setattr__" (.ref a) [.str name s.toks, v] [] _ SF.kind SF.split hsub (SF.args (.ref a) (.str name s.toks) v) ?_)
  obtain ⟨attr, ha, hr⟩ := Option.bind_eq_some_iff.mp ht
  have L3 : Looks (model pg w) s.heap (storeTaker? attr) none := by
    cases attr with
    | none => exact .now
    | some z =>
      obtain ⟨b, hb, hn⟩ := Option.map_eq_some_iff.mp hr
      cases b with
      | true => cases hn
      | false => exact (looks_takesIn X hb).andThen .now
  have hm : Looks (model pg w) s.heap (mroOf (.ref 68)) [.ref 68, .type "list", .type "object"] := (looks_clsIn X (own_cls w.params)).andThen .now
  rw [osa_eq, refuse_eq]
  refine wpAny_bind (wpAny_bind (I.type _ _ _ _ (fun _ _ z => z) (wpAny_bind (hm _ _ _ _ (fun _ _ z => z) ?_))))
  rw [refuseLoop_ref, refuse_list]
  refine wpAny_pure (wpAny_bind (I.type _ _ _ _ (fun _ _ z => z) (wpAny_bind (looks_findIn X ha _ _ _ _ (fun _ _ z => z) (wpAny_bind (L3 _ _ _ _ (fun _ _ z => z) ?_))))))
  dsimp only
  have ep : Obj.putName name (PyData.keyHash w.params name) (.str name (s.toks + 1)) v (dictOf es k) = dictOf es' k' := by rw [putName_dict, q1, q2]
  obtain ⟨U1, U2⟩ := news_upd (f := Obj.putName name (PyData.keyHash w.params name) (.str name (s.toks + 1)) v) F N e1 e2 ep rfl
  have D := (N (ns, dictOf es k) (by simp)).1
  have D' := (U2 (ns, dictOf es' k') (by simp)).1
  refine wpAny_bind (wpAny_pure (wpAny_bind (wpAny_bind (wpAny_loadPart I.at_ (wpAny_bind (looks_clsIn X hc _ _ _ _ (fun _ _ z => z) ?_))))))
  rw [hd']
  refine wpAny_pure (a := some ns) (wpAny_bind (wpAny_pure (wpAny_bind ?_)))
  unfold nsSet
  refine wpAny_bind (wpAny_bind (wpAny_askSetting (wpAny_pure (wpAny_bind (wpAny_mkText (wpAny_bind (wpAny_loadPart D ?_)))))))
  dsimp only
  have hnr : (!es.toArray.any (·.key.isStr name) && es.toArray.any (·.refKey)) = false := by
    have hl' : (lookIn name (dictOf es k)).isSome = true := by rw [lookIn_dict]; exact hl
    unfold lookIn at hl'
    dsimp only at hl'
    rw [← Array.any_toList, ← Array.any_toList]
    split at hl'
    · rename_i en he
      rw [List.any_eq_true.mpr ⟨en, List.mem_of_find?_eq_some he, List.find?_some he⟩]; rfl
    · split at hl'
      · cases hl'
      · rename_i z; rw [Bool.not_eq_true] at z; rw [z, Bool.and_false]
  rw [aRefKeyMayBeTheName_at, hnr]
  refine wpAny_updatePart D ?_
  refine wpAny_bind (wpAny_lookBehind D' (pastItsLine_dict (by rw [List.size_toArray, sizeLine_eq]; omega)) ?_)
  exact wpAny_pure (h _ U1 U2)

theorem hint_il {Q : Bool → Shared → Prop} (X : (hd.heap_39 w.params).In s.heap) (I : InstAt s.heap a (ilObj ns items n) 68 (some on)) (hz : items.length ≤ 1000)
    (h : Q ((items.length : Int) != 0) { s with toks := s.toks + 2 }) : wpAny (model pg w) A (Builtin.List.listLengthHint (.ref a)) Q E s := by
  unfold Builtin.List.listLengthHint specialOf
  refine wpAny_bind (wpAny_bind (I.type.here ((looks_findIn X (own_len w.params)).here ?_)))
  generalize hid : ("list.__len__" : String) = id0
  wp_delta
  rw [show splitId id0 = some ("list", "__len__") from by subst hid; decide +kernel]
  subst hid
  refine wpAny_bind ((isi_il X I).here ?_)
  refine wpAny_ite_split (fun hab => absurd hab (by decide)) (fun _ => ?_)
  refine wpAny_ite_split (fun _ => ?_) (fun hab => absurd (by decide +kernel) hab)
  refine wpAny_bind (I.type.here ?_)
  refine wpAny_bind (len_il X I hz ?_)
  refine wpAny_bind (m := asInt? _) (wpAny_pure ?_)
  exact wpAny_pure h

theorem itemsOf_eq {acc : Array Value} {xs : List Value} (h : ItemsOf (fun i v => xs.toArray[i]? = some v) acc xs.length) : acc = xs.toArray := by
  obtain ⟨h1, h2⟩ := h
  apply Array.ext
  · rw [h1, List.size_toArray]
  · intro i hi hj
    have this : xs.toArray[i]? = some acc[i] := h2 i acc[i] (Array.getElem?_eq_getElem hi)
    rw [Array.getElem?_eq_getElem hj] at this
    exact (Option.some.inj this).symm

theorem extend_il {R : Result → Shared → Prop} {S : Addr} {res : Value} {c₀ : Nat} (hh : A.handled = none) (X : (hd.heap_39 w.params).In s.heap) (I : InstAt s.heap a (ilObj ns items n) 68 (some on)) (hz : items.length ≤ 1000)
    (hSa : S ≠ a) (hS : s.heap.get? S = some { cls := .type "list", data := .seq #[] c₀ })
    (hR : ∀ h' tk c', (∀ b o, b ≠ S → s.heap.get? b = some o → h'.get? b = some o) → h'.get? S = some { cls := .type "list", dict := none, data := .seq items.toArray c', slots := #[] } → R (.ok (.ret res)) { s with heap := h', toks := tk }) :
    wpAny (model pg w) A.in1 (Builtin.List.listExtendWith (.ref S) (.ref a) res)
      (fun fin s' => match fin with | .done f => R (.ok f) s' | .again c' => c'.quiet = true ∧ codeAny (model pg w) A c' R s') (fun e s' => R (.error e) s') s := by
  have hSlt : S < s.heap.objs.size := Heap.lt_size hS
  have hSI : S ≠ s.heap.objs.size := Nat.ne_of_lt hSlt
  have hxa := I.at_
  have haI : a ≠ s.heap.objs.size := Nat.ne_of_lt (Heap.lt_size hxa)
  have hSf : S ∉ [s.heap.objs.size, a] := fun hm => by
    rcases List.mem_cons.mp hm with e | hm
    · exact hSI e
    · exact hSa (List.mem_singleton.mp hm)
  have W := (walksSeq (prog := pg) (w := w) (A := A.in1) hh s.heap.objs.size a haI items.toArray).toS
  have key : ∀ (h : Heap) (c₁ tk : Nat), h.IsListIter s.heap.objs.size a 0 → (∀ b o, b ≠ S → s.heap.get? b = some o → h.get? b = some o) →
      h.get? S = some { cls := .type "list", data := .seq #[] c₁ } → codeAny (model pg w) A (.builtin "list.extend.loop" ⟨[.ref S, .ref s.heap.objs.size, res], []⟩) R { s with heap := h, toks := tk } := by
    intro h c₁ tk hit hk hS₁
    refine codeAny_extend_loopS W (by rw [sizeLine_eq, List.size_toArray]; omega) S hSf res items.toArray.size 0 _ #[] c₁ rfl (Nat.zero_le _) ⟨hit, _, _, hk a _ (Ne.symm hSa) hxa, rfl⟩ hS₁ (ItemsOf.nil _) fun s' acc' c' hm hS' hacc => ?_
    rw [Moved.eq_with hm]
    rw [List.size_toArray] at hacc
    rw [itemsOf_eq hacc] at hS'
    refine hR s'.heap s'.toks c' (fun b o hb e => hm.heap b o (fun hmem => ?_) (hk b o hb e)) hS'
    rcases List.mem_cons.mp hmem with e' | hmem
    · exact hb e'
    · exact absurd (Heap.lt_size e) (by rw [List.mem_singleton.mp hmem]; exact Nat.lt_irrefl _)
  unfold Builtin.List.listExtendWith
  refine wpAny_bind (I.type.here ?_)
  have h1 : Builtin.List.listSameRef (.ref S) (.ref a) = false := by simp [Builtin.List.listSameRef, hSa]
  have h2 : (Value.ref 68 == Value.type "list") = false := by decide
  have h3 : (Value.ref 68 == Value.type "tuple") = false := by decide
  simp only [h1, h2, h3, Bool.or_false, Bool.false_eq_true, if_false]
  refine wpAny_bind (iter_il X I ?_)
  have hkp : ∀ b o, s.heap.get? b = some o → (s.heap.push { cls := .type "list_iterator", data := .fields #[.ref a, .int 0 0] }).get? b = some o := fun b o e => Heap.get?_push_of_some _ e
  have hdict := I.dict
  dsimp only at hdict
  have I₁ : InstAt (s.heap.push { cls := .type "list_iterator", data := .fields #[.ref a, .int 0 0] }) a (ilObj ns items n) 68 (some on) := ⟨hkp _ _ hxa, rfl, rfl, hkp _ _ hdict⟩
  refine wpAny_bind (wpAny_holding (hint_il (X.keeps hkp) I₁ hz ?_))
  have hit₁ : (s.heap.push { cls := .type "list_iterator", data := .fields #[.ref a, .int 0 0] }).IsListIter s.heap.objs.size a 0 := ⟨_, Heap.get?_push_size _ rfl, rfl, rfl⟩
  have hS₁ := hkp _ _ hS
  refine wpAny_ite_split (fun _ => ?_) (fun _ => wpAny_pure ⟨plainId_quiet F.plain_extend_loop _, key _ c₀ _ hit₁ (fun b o _ e => hkp b o e) hS₁⟩)
  refine wpAny_bind (wpAny_rule ?_)
  refine wpAny_bind ?_
  show wpAny _ _ (updateSeq S (·.push .none) >>= fun _ => updateSeq S (·.pop)) _ _ _
  refine wpAny_bind (wpAny_updateSeq hS₁ rfl ?_)
  have hS₂ := Heap.get?_update_self (Obj.mapSeq (·.push Value.none)) hS₁ rfl
  refine wpAny_updateSeq (hz := by seq_fits) hS₂ rfl ?_
  have hS₃ := Heap.get?_update_self (Obj.mapSeq (·.pop)) hS₂ rfl
  refine wpAny_pure ⟨plainId_quiet F.plain_extend_loop _, key _ _ _ ?_ (fun b o hb e => ?_) hS₃⟩
  · exact hit₁.at fun o e => (Heap.get?_update_other _ _ hSI).trans ((Heap.get?_update_other _ _ hSI).trans e)
  · exact (Heap.get?_update_other _ _ (Ne.symm hb)).trans ((Heap.get?_update_other _ _ (Ne.symm hb)).trans (hkp b o e))

theorem list_il {Q : Value → Shared → Prop} (hh : A.handled = none) (X : (hd.heap_39 w.params).In s.heap) (I : InstAt s.heap a (ilObj ns items n) 68 (some on)) (hz : items.length ≤ 1000)
    (h : ∀ h' tk c', (∀ b o, s.heap.get? b = some o → h'.get? b = some o) → h'.get? s.heap.objs.size = some (listOf items.toArray c') → Q (.ref s.heap.objs.size) { s with heap := h', toks := tk }) :
    wpAny (model pg w) A (call (.type "list") [.ref a]) Q E s := by
  have hxa := I.at_
  have hdict := I.dict
  dsimp only at hdict
  have up : ∀ b o, s.heap.get? b = some o → (s.heap.push { cls := .type "list", data := .seq #[] }).get? b = some o := fun b o e => Heap.get?_push_of_some _ e
  refine callType_codes (Q₁ := fun obj s₁ => obj = .ref s.heap.objs.size ∧ s₁ = { s with heap := s.heap.push { cls := .type "list", data := .seq #[] } }) F.called_list (F.typeCall_list_1 _) F.entry_list_init
    (code_list_new _ ⟨rfl, rfl⟩) fun obj s₁ h₁ => ?_
  obtain ⟨rfl, rfl⟩ := h₁
  have hS : (s.heap.push { cls := .type "list", data := .seq #[] }).get? s.heap.objs.size = some { cls := .type "list", data := .seq #[] } := Heap.get?_push_size _ rfl
  refine ⟨⟨_, hS, rfl⟩, F.args_list_init_2 _ _, ?_⟩
  show wpAny _ _ (do let old ← Builtin.List.listItems (.ref s.heap.objs.size); Builtin.List.listUpdate (.ref s.heap.objs.size) (fun _ => #[]); letGo old.toList.reverse; Builtin.List.listExtendWith (.ref s.heap.objs.size) (.ref a) .none) _ _ _
  refine wpAny_bind ?_
  unfold Builtin.List.listItems
  refine wpAny_bind (wpAny_seqItems hS rfl (wpAny_pure ?_))
  show wpAny _ _ (updateSeq s.heap.objs.size (fun _ => #[]) >>= fun _ => letGo (#[] : Array Value).toList.reverse >>= fun _ => Builtin.List.listExtendWith (.ref s.heap.objs.size) (.ref a) .none) _ _ _
  refine wpAny_bind (wpAny_updateSeq hS rfl ?_)
  have hS₂ := Heap.get?_update_self (Obj.mapSeq (fun _ => (#[] : Array Value))) hS rfl
  have oth : ∀ b o, s.heap.get? b = some o → ((s.heap.push { cls := .type "list", data := .seq #[] }).update s.heap.objs.size (Obj.mapSeq (fun _ => (#[] : Array Value)))).get? b = some o :=
    fun b o e => (Heap.get?_update_other _ _ (Ne.symm (Nat.ne_of_lt (Heap.lt_size e)))).trans (up b o e)
  refine wpAny_bind (wpAny_letGo ?_)
  refine extend_il (A := A.in1) (S := s.heap.objs.size) hh (X.keeps oth) ⟨oth _ _ hxa, rfl, rfl, oth _ _ hdict⟩ hz (Ne.symm (Nat.ne_of_lt (Heap.lt_size hxa))) hS₂ fun h' tk c' hk hS' => ?_
  exact ⟨rfl, h h' tk c' (fun b o e => hk b o (Nat.ne_of_lt (Heap.lt_size e)) (oth b o e)) hS'⟩

theorem enum_il {Q : Value → Shared → Prop} (X : (hd.heap_39 w.params).In s.heap) (I : InstAt s.heap a (ilObj ns items n) 68 (some on))
    (h : ∀ h', IsEnum h' (s.heap.objs.size + 1) s.heap.objs.size 0 .none → h'.IsListIter s.heap.objs.size a 0 → h'.objs.size = s.heap.objs.size + 2 →
      (∀ b o, s.heap.get? b = some o → h'.get? b = some o) → Q (.ref (s.heap.objs.size + 1)) { s with heap := h' }) :
    wpAny (model pg w) A (call (.type "enumerate") [.ref a]) Q E s := by
  have hz : (s.heap.push { cls := .type "list_iterator", data := .fields #[.ref a, .int 0 0] }).objs.size = s.heap.objs.size + 1 := Heap.size_push ..
  have he : IsEnum ((s.heap.push { cls := .type "list_iterator", data := .fields #[.ref a, .int 0 0] }).push
      { cls := .type "enumerate", data := .fields #[.none, .bool false, .ref s.heap.objs.size, rawInt 0, .none, .none] }) (s.heap.objs.size + 1) s.heap.objs.size 0 .none := by
    have := Heap.get?_push_size (s.heap.push { cls := .type "list_iterator", data := .fields #[.ref a, .int 0 0] })
      (o := { cls := .type "enumerate", data := .fields #[.none, .bool false, .ref s.heap.objs.size, rawInt 0, .none, .none] }) rfl
    rw [hz] at this; exact this
  refine callType_codes (Q₁ := fun obj s₁ => obj = .ref (s.heap.objs.size + 1) ∧ s₁ = { s with heap := (s.heap.push { cls := .type "list_iterator", data := .fields #[.ref a, .int 0 0] }).push { cls := .type "enumerate", data := .fields #[.none, .bool false, .ref s.heap.objs.size, rawInt 0, .none, .none] } })
    F.called_enumerate (F.typeCall_enumerate_1 _) F.entry_object_init ?_ fun obj s₁ h₁ => ?_
  · refine codeAny_call_builtin (by decide +kernel) F.entry_enumerate_new (wpAny_of_eq (F.newCall_enumerate_1 _) ?_)
    have hsub := sub_enumerate
    have fin : wants (E := E) (fun obj s₁ => obj = .ref (s.heap.objs.size + 1) ∧ s₁ = { s with heap := (s.heap.push { cls := .type "list_iterator", data := .fields #[.ref a, .int 0 0] }).push { cls := .type "enumerate", data := .fields #[.none, .bool false, .ref s.heap.objs.size, rawInt 0, .none, .none] } })
        (.ok (.ret (.ref (s.heap.push { cls := .type "list_iterator", data := .fields #[.ref a, .int 0 0] }).objs.size))) { s with heap := (s.heap.push { cls := .type "list_iterator", data := .fields #[.ref a, .int 0 0] }).push { cls := .type "enumerate", data := .fields #[.none, .bool false, .ref s.heap.objs.size, rawInt 0, .none, .none] } } := ⟨by rw [hz], rfl⟩
    obtain ⟨hp, g, dd, tk, os⟩ := s
    wp_walk using iter_il X I
    refine wpAny_stack_any fun st => wpAny_pure ?_
    split
    · rename_i c _ _ _ _ _
      cases (c == Value.type "enumerate")
      · wp_walk using iter_il X I
        exact fin
      · wp_walk using iter_il X I
        exact fin
    · wp_walk using iter_il X I
      exact fin
  · obtain ⟨rfl, rfl⟩ := h₁
    refine ⟨⟨_, he, rfl⟩, F.args_object_init_2 _ _, ?_⟩
    refine object_init_meets F.called_enumerate.init.lookup F.called_enumerate.made (by decide) pg w A.in1 _ _ ⟨⟨_, he, rfl⟩, ?_⟩
    exact ⟨rfl, h _ he ⟨_, Heap.get?_push_of_some _ (Heap.get?_push_size _ rfl), rfl, rfl⟩ (by rw [Heap.size_push, hz]) fun b o x => Heap.get?_push_of_some _ (Heap.get?_push_of_some _ x)⟩
end
end Mine

-- part MK
namespace Mine
-- the walker keeps the rules that it found as long as their number stays: a step under no local rule makes it look anew
theorem anewMK {w : PySem.World} {A : PySem.Around} {E : PySem.Value → PySem.Shared → Prop} {Q : PySem.Flow → PySem.Shared → Prop} {s : PySem.Shared} {env : PySem.Env} (h : PySem.wpAny (PySem.model PySem.Challenge.rw_aa5017_01.row.prog w) A (PySem.execs [] env) Q E s) :
    PySem.wpAny (PySem.model PySem.Challenge.rw_aa5017_01.row.prog w) A (PySem.execs [] env) Q E s := by
  first | (walk1; fail) | exact h
end Mine
open PySem PySem.W PyProof.Rows PySem.Calls PySem.Builtin PySem.Builtin.ObjectAttr
set_option Elab.async false
set_option maxRecDepth 100000
set_option maxHeartbeats 4000000
namespace Mine
theorem fillK : True ∧ (PySem.Challenge.rw_aa5017_01, hd.heap_39) = (PySem.Challenge.rw_aa5017_01, hd.heap_39) := ⟨trivial, by k_fill; rfl⟩
theorem own_obj (P : Params) : (hd.heap_39 P).lookup 68 = some ⟨.type "type", none, .cls { name := Str.ofString "IndexedList", bases := [.type "list"], mro := [.ref 68, .type "list", .type "object"], ns := 67, qualname := Str.ofString "IndexedList" },
    #[some (.ref 15), none, some (.str (Str.ofString "IndexedList") 189), some (.str (Str.ofString "IndexedList") 197), some (.builtin "list.__new__"), some (.bool true)]⟩ := rfl
theorem own_call (P : Params) : specialIn (hd.heap_39 P) (.ref 68) "__call__" = some (some (.builtin "type.__call__")) := by k_is
theorem own_type (P : Params) : instIn (hd.heap_39 P) (.ref 68) (.type "type") = some true := by k_is
theorem own_self (P : Params) : subIn (hd.heap_39 P) (.ref 68) (.ref 68) = some true := by k_is
theorem own_init (P : Params) : findIn (hd.heap_39 P) (.ref 68) "__init__" = some (some (.ref 30)) := by k_is
theorem own_initFn (P : Params) : typeIn (hd.heap_39 P) (.ref 30) = some (.type "function") := by k_is
theorem ln_kind : builtinKind "list.__new__" = some .builtinFn := by decide +kernel
theorem ln_split : splitId "list.__new__" = some ("list", "__new__") := by decide +kernel
theorem ln_sig : ∃ sig, Manifest.signature? "list.__new__" = some sig ∧ ∀ rest kw, Bind.checkArgs "list.__new__" sig ⟨rest, kw⟩ = pure () := by
  refine ⟨⟨.any, "list", "list", .cls, [{ name := "args", kind := .varPos, required := false }, { name := "kwargs", kind := .varKw, required := false }]⟩, by kernel_rfl, fun rest kw => by kernel_rfl⟩

section
variable {w : World} {A : Around} {R : Result → Shared → Prop} {h : Heap} {g : Array GenState} {d : Drawn} {t : Nat} {os : OsState}
theorem il_base {M : Model} (X : (hd.heap_39 w.params).In h) : Looks M h (Bind.madeBy (.ref 68)) (some "list.__new__") ∧ Looks M h (Bind.staticBase (.ref 68)) (.ref 68) := by
  have hm : Looks M h (mroOf (.ref 68)) [.ref 68, .type "list", .type "object"] := (looks_clsIn X (own_cls w.params)).andThen .now
  have made : Looks M h (Bind.madeBy (.ref 68)) (some "list.__new__") := by
    intro A Q E s k q
    unfold Bind.madeBy
    refine wpAny_bind (hm A _ E s k ?_)
    rw [List.forIn_cons]
    refine wpAny_bind (wpAny_bind (wpAny_bind (wpAny_bind (wpAny_loadPart (k _ _ (X _ _ (own_obj w.params))) (wpAny_pure ?_)))))
    exact wpAny_pure (wpAny_pure (wpAny_pure q))
  refine ⟨made, ?_⟩
  intro A Q E s k q
  unfold Bind.staticBase
  refine wpAny_bind (hm A _ E s k ?_)
  rw [List.forIn_cons]
  exact wpAny_bind (wpAny_bind (wpAny_bind (made A _ E s k (wpAny_pure (wpAny_pure (wpAny_pure q))))))

theorem new_il {rest : List Value} {kw : List (Str × Value)} (X : (hd.heap_39 w.params).In h)
    (hq : R (.ok (.ret (.ref (h.objs.size + 1)))) ⟨(h.push emptyDict).push (ilObj h.objs.size [] 0), g, d, t, os⟩) :
    codeAny (model pg w) A (.call (.builtin "list.__new__") ⟨.ref 68 :: rest, kw⟩) R ⟨h, g, d, t, os⟩ := by
  obtain ⟨made, base⟩ := il_base (M := model pg w) X
  obtain ⟨sig, hsig, hck⟩ := ln_sig
  have typ := looks_instIn (M := model pg w) X (own_type w.params)
  have sub := looks_subIn (M := model pg w) X (sub_list w.params)
  have hC := X _ _ (own_obj w.params)
  have hC' := Heap.get?_push_of_some (ilObj h.objs.size [] 0) (Heap.get?_push_of_some emptyDict hC)
  refine codeAny_call_builtin_code (Code.quiet_builtin _ (by decide +kernel)) ?_
  simp only [checkBuiltinCall, ln_kind, ln_split, hsig, hck]
  unfold isInstance at typ
  repeat lk
  refine codeAny_builtin_stack F.entry_list_new rfl fun p st => ?_
  rw [Around.under_plainId F.plain_list_new _]
  have hown := owner_list_new
  simp only [hown]
  repeat lk
  rw [Heap.size_push]
  exact hq

theorem make_core_il {rest : List Value} {kw : List (Str × Value)} (X : (hd.heap_39 w.params).In h)
    (hq : codeAny (model pg w) (A.under (.builtin "type.__call__" ⟨.ref 68 :: rest, kw⟩)) (.call (.ref 30) ⟨.ref (h.objs.size + 1) :: rest, kw⟩) (InitBack (h.objs.size + 1) R) ⟨(h.push emptyDict).push (ilObj h.objs.size [] 0), g, d, t, os⟩) :
    codeAny (model pg w) A (.call (.ref 68) ⟨rest, kw⟩) R ⟨h, g, d, t, os⟩ := by
  obtain ⟨made, base⟩ := il_base (M := model pg w) X
  have typ := looks_instIn (M := model pg w) X (own_type w.params)
  have self := looks_subIn (M := model pg w) X (own_self w.params)
  have call := looks_specialIn (M := model pg w) X (own_call w.params)
  have hC := X _ _ (own_obj w.params)
  have hm : Looks (model pg w) h (mroOf (.ref 68)) [.ref 68, .type "list", .type "object"] := (looks_clsIn X (own_cls w.params)).andThen .now
  refine codeAny_of_tree ?_
  show wpAny _ _ (callAny (.ref 68) _) _ _ _
  refine nd_load hC ?_
  show wpAny _ _ (callAny.viaDunder (.ref 68) _) _ _ _
  unfold callAny.viaDunder
  refine wpAny_bind (call.at ?_)
  dsimp only
  rw [tc_bind]
  refine wpAny_bind (wpAny_pure (wpAny_bind (wpAny_pure ?_)))
  refine wpAny_pure (a := Fin.again (.call (.builtin "type.__call__") ⟨.ref 68 :: rest, kw⟩)) (And.intro rfl ?_)
  refine codeAny_call_builtin_at (Code.quiet_builtin _ (by decide +kernel)) entry_typeCall (check_slot tc_kind tc_split typ (tc_args _ _ _) ?_)
  unfold Builtin.«type.__call__»
  repeat (first | with_reducible refine wpAny_call ?_ | lk)
  refine new_il X ?_
  have k : ∀ b o, h.get? b = some o → ((h.push emptyDict).push (ilObj h.objs.size [] 0)).get? b = some o := fun b o e => Heap.get?_push_of_some _ (Heap.get?_push_of_some _ e)
  have hx : ((h.push emptyDict).push (ilObj h.objs.size [] 0)).get? (h.objs.size + 1) = some (ilObj h.objs.size [] 0) := by heap_get
  have t1 : Looks (model pg w) ((h.push emptyDict).push (ilObj h.objs.size [] 0)) (typeOf (.ref (h.objs.size + 1))) (.ref 68) := (Looks.ld hx).andThen .now
  have s1 := self.keeps k
  have i1 := (looks_findIn (M := model pg w) X (own_init w.params)).keeps k
  have b1 := (bind_fn (M := model pg w) X (.ref (h.objs.size + 1)) (own_initFn w.params)).keeps k
  unfold isInstance callSpecial? specialOf
  repeat (first | with_reducible refine wpAny_call ?_ | lk)
  refine codeAny_mono hq fun r s' z => ?_
  rcases r with e | (v | _ | _ | _) <;> first | exact z | exact z.elim | skip
  obtain ⟨rfl, z⟩ := z
  exact wpAny_pure (wpAny_pure z)
end

theorem make_il {w : World} {A : Around} {R : Result → Shared → Prop} {s : Shared} {h₀ : Heap} {L : Addr} {m : Str → Option Value} {news : Led} {rest : List Value} {kw : List (Str × Value)}
    (F : Fr h₀ L s.heap m) (X₀ : (hd.heap_39 w.params).In h₀) (N : News h₀ L s.heap news)
    (q : ∀ x dx h', Fr h₀ L h' m → News h₀ L h' ((x, ilObj dx [] 0) :: (dx, dictOf [] 0) :: news) → (∀ p ∈ news, p.1 < dx) → dx < x →
      codeAny (model pg w) (A.under (.builtin "type.__call__" ⟨.ref 68 :: rest, kw⟩)) (.call (.ref 30) ⟨.ref x :: rest, kw⟩) (InitBack x R) { s with heap := h' }) :
    codeAny (model pg w) A (.call (.ref 68) ⟨rest, kw⟩) R s := by
  have X := X₀.keeps F.keep
  obtain ⟨hh, g, d, t, os⟩ := s
  refine make_core_il X (q _ hh.objs.size _ ((F.push _).push _) ?_ (fun p hp => Heap.lt_size (N p hp).1) (Nat.lt_succ_self _))
  have := (N.push F emptyDict).push (F.push _) (ilObj hh.objs.size [] 0)
  rwa [Heap.size_push] at this
end Mine

-- part MD
namespace Mine
-- the walker keeps the rules that it found as long as their number stays: a step under no local rule makes it look anew
theorem anewMD {w : PySem.World} {A : PySem.Around} {E : PySem.Value → PySem.Shared → Prop} {Q : PySem.Flow → PySem.Shared → Prop} {s : PySem.Shared} {env : PySem.Env} (h : PySem.wpAny (PySem.model PySem.Challenge.rw_aa5017_01.row.prog w) A (PySem.execs [] env) Q E s) :
    PySem.wpAny (PySem.model PySem.Challenge.rw_aa5017_01.row.prog w) A (PySem.execs [] env) Q E s := by
  first | (walk1; fail) | exact h
end Mine
open PySem PySem.W PyProof.Rows PySem.Calls PySem.Builtin PySem.Builtin.ObjectAttr
set_option Elab.async false
set_option maxRecDepth 100000
namespace Mine
/-- how the call's surroundings look -/
abbrev topA (dp un : Nat) (gd : Option (List Code)) (env : Env) (outer : List Env) : Around := { handled := none, depth := dp, frames := some (env :: outer), guards := gd, units := un }
/-- a datum laid behind, if it is not there -/
def addD (ds : List Dt) (x : Dt) : List Dt := if inD x ds = true then ds else ds ++ [x]

theorem inst_il {h₀ h : Heap} {L a ns : Addr} {news : Led} {on : Obj} {items : List Value} {n : Nat} (N : News h₀ L h news) (h1 : (a, ilObj ns items n) ∈ news) (h2 : (ns, on) ∈ news) :
    InstAt h a (ilObj ns items n) 68 (some on) := ⟨(N _ h1).1, rfl, rfl, (N _ h2).1⟩

section
variable {w : World} {A : Around} {E : Value → Shared → Prop} {s : Shared} {a ns d L : Addr} {items : List Value} {n k : Nat} {on od : Obj} {h₀ : Heap} {m : Str → Option Value} {news news' : Led} {es : List DictEntry} {name : Str}
  {P : Addr → Obj → Prop} {ds : List Dt} {v : Value} {x : Dt}
theorem getOwn_il {expr : Bool} {attr : Option Value} {u : Value} {Q : Value → Shared → Prop} (F : Fr h₀ L s.heap m) (X₀ : (hd.heap_39 w.params).In h₀) (I : InstAt s.heap a (ilObj ns items n) 68 (some (dictOf es k)))
    (ha : findIn (hd.heap_39 w.params) (.ref 68) name = some attr) (hn : noGet (hd.heap_39 w.params) attr = true) (hl : getL name es = some (some u)) (hv : handedIn u = true) (h : Q u { s with toks := s.toks + 1 }) :
    wpAny (model pg w) A (getAttr (.ref a) name expr) Q E s :=
  get_il (X₀.keeps F.keep) I (findObj_own (own_hasDict w.params) ha hn hl) hv h
theorem method_il {f : Addr} {pl : Sem Bool} {Q : Value × List Value → Shared → Prop} (F : Fr h₀ L s.heap m) (X₀ : (hd.heap_39 w.params).In h₀) (I : InstAt s.heap a (ilObj ns items n) 68 (some (dictOf es k)))
    (hf : findIn (hd.heap_39 w.params) (.ref 68) name = some (some (.ref f))) (ht : isFn (hd.heap_39 w.params) (.ref f) = true) (hl : getL name es = some none) (h : Q (.ref f, [.ref a]) s) :
    wpAny (model pg w) A (getMethod (.ref a) name pl) Q E s :=
  meth_il (X₀.keeps F.keep) I hf ht (by show (lookIn name (dictOf es k)).map _ = _; rw [lookIn_dict, hl]; rfl) h
theorem lenK_il {Q : Value → Shared → Prop} (F : Fr h₀ L s.heap m) (X₀ : (hd.heap_39 w.params).In h₀) (I : InstAt s.heap a (ilObj ns items n) 68 (some on)) (hz : items.length ≤ 1000)
    (h : Q (.int items.length (s.toks + 1)) { s with toks := s.toks + 2 }) : wpAny (model pg w) A (call (.builtin "len") [.ref a]) Q E s := len_il (X₀.keeps F.keep) I hz h

theorem notIn_K {Q : Value → Shared → Prop} (F : Fr h₀ L s.heap m) (N : News h₀ L s.heap news) (hP : TupsIn P h₀) (hm : (d, od) ∈ news) (hD : DictI pg w P od ds) (hx : DenP pg w P v x) (lo : (d == sysModules) = false) (hu : A.units + 1 < cLine)
    (h : ∀ tk, Q (.bool (!inD x ds)) { s with toks := tk }) : wpAny (model pg w) A (compareOp .NotIn v (.ref d)) Q E s :=
  notIn_D hu lo (N _ hm).1 hD (hP.keeps F.keep) hx h
theorem in_K {Q : Value → Shared → Prop} (F : Fr h₀ L s.heap m) (N : News h₀ L s.heap news) (hP : TupsIn P h₀) (hm : (d, od) ∈ news) (hD : DictI pg w P od ds) (hx : DenP pg w P v x) (lo : (d == sysModules) = false) (hu : A.units + 1 < cLine)
    (h : ∀ tk, Q (.bool (inD x ds)) { s with toks := tk }) : wpAny (model pg w) A (compareOp .In v (.ref d)) Q E s :=
  in_D hu lo (N _ hm).1 hD (hP.keeps F.keep) hx h
theorem tail_K {value slice : PySem.Expr} {Q : Value → Shared → Prop} (F : Fr h₀ L s.heap m) (N : News h₀ L s.heap news) (hP : TupsIn P h₀) (hm : (d, od) ∈ news) (hD : DictI pg w P od ds) (hx : DenP pg w P v x) (hu : A.units + 1 < cLine) (hin : x ∈ ds)
    (h : ∀ i : Nat, ds[i]? = some x → ∀ t tk, Q (.int i t) { s with toks := tk })
    (hs : subscripted slice false (.ref d) v = operate [.ref d, v] (getItem (.ref d) v)) (hg : ∀ r, letTemporaryGo value (.ref d) r = pure ()) :
    wpAny (model pg w) A (subscriptTail value slice (.ref d) v) Q E s := by
  have hT : s.TypeIs (.ref d) "dict" := ⟨od, (N _ hm).1, hD.cls⟩
  exact tail_any hT slot_dict_getitem.lookup (getItem_D hu (N _ hm).1 hD (hP.keeps F.keep) hx hin h) hs
theorem dict_nil {env : Env} {pos : Pos} {Q : Value → Shared → Prop} (F : Fr h₀ L s.heap m) (X₀ : (hd.heap_39 w.params).In h₀) (N : News h₀ L s.heap news)
    (h : ∀ d h', Fr h₀ L h' m → News h₀ L h' ((d, dictOf [] 0) :: news) → (∀ p ∈ news, p.1 < d) → (d == sysModules) = false → (∀ b o, h₀.get? b = some o → @LT.lt Nat _ b d) → Q (.ref d) { s with heap := h' }) : wpAny (model pg w) A (eval (.Dict [] [] pos) env) Q E s := by
  refine wpAny_Dict_empty (h s.heap.objs.size _ (F.push _) (N.push F _) (fun p hp => Heap.lt_size (N p hp).1) ?_ fun b o e => Heap.lt_size (F.keep b o e))
  have h3 : 68 < s.heap.objs.size := Heap.lt_size ((X₀.keeps F.keep) 68 _ (own_obj w.params))
  have h4 : s.heap.objs.size ≠ 1 := Nat.ne_of_gt (Nat.lt_of_le_of_lt (by decide) h3)
  simpa [sysModules] using h4
theorem notMem_of (h : inD x ds = false) : x ∉ ds := fun q => by rw [inD_true q] at h; cases h
theorem mem_of (h : inD x ds = true) : x ∈ ds := inD_iff.mp h
theorem setItem_K {nf : Obj → Led} {l : Nat} {t : Tok} {Q : Unit → Shared → Prop} (F : Fr h₀ L s.heap m) (N : News h₀ L s.heap news) (U : UpdF d od news nf) (hP : TupsIn P h₀) (hD : DictI pg w P od ds) (hx : DenP pg w P v x) (hu : A.units + 1 < cLine)
    (hl : l = ds.length) (hm : x ∉ ds) (hz : ds.length ≤ 1000)
    (h : ∀ h' od' tk, DictI pg w P od' (ds ++ [x]) → Fr h₀ L h' m → News h₀ L h' (nf od') → Q () { s with heap := h', toks := tk }) :
    wpAny (model pg w) A (setItem (.ref d) v (.int l t)) Q E s := by
  subst hl
  obtain ⟨pre, post, rfl, e, h1, h2⟩ := U.split
  have z := N (d, od) (List.mem_append.mpr (.inr (.head _)))
  refine setItem_D hu z.1 hD (hP.keeps F.keep) hx hm (by rw [sizeLine_eq]; omega) fun h' od' tk hD' ho' hs _ => ?_
  exact h h' od' tk hD' (F.change hs z.2.1 z.2.2) (e od' ▸ news_set N h1 h2 hs ho')
end
theorem meta_list : typeOf (.type "list") = pure (.type "type") := by kernel_rfl
local macro_rules | `(tactic| walk_at "getMethod type:list") => `(tactic| (k_here; refine' method_type ?F ?X ?m (by decide +kernel) ?e ?h ?_; (case F => k_asm); (case X => k_asm); (case m => exact meta_list); (case e => k_dflt k_is); (case h => k_handed)))
local macro_rules | `(tactic| k_inst) => `(tactic| (refine' inst_il ?N ?h1 ?h2; (case N => k_asm); (case h1 => k_mem); (case h2 => k_mem)))
local macro_rules | `(tactic| walk_at "getAttr ref") => `(tactic| (k_here; k_dflt (refine' getOwn_il ?k1 ?k2 ?k3 ?k4 ?k5 ?k6 ?k7 ?_; (case k1 => k_asm); (case k2 => k_asm); (case k3 => k_inst); (case k4 => k_is); (case k5 => k_is); (case k6 => k_get); (case k7 => k_handed); k_whole)))
local macro_rules | `(tactic| walk_at "getMethod ref") => `(tactic| (k_here; k_dflt (refine' method_il ?k1 ?k2 ?k3 ?k4 ?k5 ?k6 ?_; (case k1 => k_asm); (case k2 => k_asm); (case k3 => k_inst); (case k4 => k_is); (case k5 => k_is); (case k6 => k_get); k_whole)))
local macro_rules | `(tactic| walk_at "call builtin:len") => `(tactic| (k_here; (with_reducible show wpAny _ _ (call (Value.builtin "len") [Value.ref _]) _ _ _); k_dflt (refine' lenK_il ?k1 ?k2 ?k3 ?k4 ?_; (case k1 => k_asm); (case k2 => k_asm); (case k3 => k_inst); (case k4 => omega); k_whole)))
local macro_rules | `(tactic| walk_at "call builtin:list.append") => `(tactic| (k_here; k_dflt (refine' append_il ?k1 ?k2 ?k3 ?k4 ?k5 ?k6 ?_; (case k1 => k_asm); (case k2 => k_asm); (case k3 => k_asm); (case k4 => k_inst); (case k5 => k_upd); (case k6 => omega); k_whole; intro h' F' N'; k_sweep)))
local macro_rules | `(tactic| walk_at "compareOp NotIn") => `(tactic| (k_here; k_dflt (refine' notIn_K ?k1 ?k2 ?k3 ?k4 ?k5 ?k6 ?k7 ?k8 ?_; (case k1 => k_asm); (case k2 => k_asm); (case k3 => k_asm); (case k4 => k_mem); (case k5 => assumption); (case k6 => assumption); (case k7 => assumption); (case k8 => ((try simp only [units_in1, units_deeper]); (try dsimp only); omega)); k_whole; intro tk')))
local macro_rules | `(tactic| walk_at "setItem ref int") => `(tactic| (k_here; k_dflt (refine' setItem_K ?k1 ?k2 ?k3 ?k4 ?k5 ?k6 ?k7 ?k8 ?k9 ?k10 ?_; (case k1 => k_asm); (case k2 => k_asm); (case k3 => k_updF); (case k4 => k_asm); (case k5 => assumption); (case k6 => assumption); (case k7 => ((try simp only [units_in1, units_deeper]); (try dsimp only); omega)); (case k8 => omega); (case k9 => first | assumption | exact notMem_of (by assumption)); (case k10 => omega); k_whole; intro h' od' tk' D' F' N'; k_sweep)))

set_option maxHeartbeats 4000000 in
theorem append_K {w : World} {A₀ : Around} {dp un : Nat} {gd : Option (List Code)} {s : Shared} {base h₀ : Heap} {outer : List Env} {L : Addr} {m : Str → Option Value} {env : Env} {rest : Led}
    {mean : ExcName → Option Value} {mg mb : Str → Option Value} {P : Addr → Obj → Prop} {a ns d : Addr} {items : List Value} {n : Nat} {t1 t2 : Tok} {b : Bool} {od : Obj} {ds : List Dt} {v : Value} {x : Dt} {Q E : Value → Shared → Prop}
    (B : Below A₀ base outer h₀) (F : Fr h₀ L s.heap m) (X₀ : (hd.heap_39 w.params).In h₀) (T : TP mean mg mb h₀) (hf : env.frame = some L) (hke : env.scope.kind = .function)
    (hroom : dp + 9 < recursionLimit) (hu : un + 90 < cLine)
    (N : News h₀ L s.heap ([(a, ilObj ns items n), (ns, nsObj w t1 t2 b d), (d, od)] ++ rest)) (dis : ∀ q ∈ [(a, ilObj ns items n), (ns, nsObj w t1 t2 b d), (d, od)], ∀ r ∈ rest, q.1 ≠ r.1)
    (h1 : @Ne Nat a ns) (h2 : @Ne Nat a d) (h3 : @Ne Nat ns d) (hP : PIn P h₀ rest) (hI : Dens w P items ds) (hD : DictI pg w P od ds) (hx : DenP pg w P v x) (lo : (d == sysModules) = false) (hlen : ds.length ≤ 1000)
    (ret : ∀ h' tk' items' n' od', Fr h₀ L h' m → News h₀ L h' ([(a, ilObj ns items' n'), (ns, nsObj w t1 t2 b d), (d, od')] ++ rest) → Dens w P items' (addD ds x) → DictI pg w P od' (addD ds x) →
      Q .none { s with heap := h', toks := tk' }) :
    wpAny (model pg w) (topA dp un gd env outer) (call (.ref 58) [.ref a, v]) Q E s := by
  have fill : (PySem.Challenge.rw_aa5017_01, hd.heap_39) = (PySem.Challenge.rw_aa5017_01, hd.heap_39) := by k_fill; rfl
  refine wpAny_call ?_
  k_dflt (refine' enterL B F X₀ N dis T ?kA hf hke ?k6 ?k7 ?k8 ?k9 ?kB ?_ ?c2 ?c3 ?c4 ?c5; (case kA => exact rfl); (case k6 => k_is); (case k7 => k_is); (case k8 => (show dp < recursionLimit; omega)); (case k9 => exact BindsTo.of_eq rfl); (case kB => exact locs rfl); (case c2 => exact rfl); (case c3 => exact rfl); (case c4 => exact rfl); (case c5 => decide); k_whole)
  intro g' L' h' st hr F' N' B' X' T' hg lt
  (try dsimp only)
  k_fold
  have hPg : TupsIn P g' := fun b o p c => (hP b o p c).elim (st b o) (hr _)
  have hlen' := hI.length
  k_steps
  · rename inD x ds = true => hin
    refine LeaveL.intro (by assumption) (by assumption) fun F₁ N₁ _ => ?_
    have e : addD ds x = ds := by unfold addD; rw [if_pos hin]
    exact ret _ _ _ _ _ F₁ N₁ (by rw [e]; exact hI) (by rw [e]; exact hD)
  · rename inD x ds = false => hin
    refine LeaveL.intro (by assumption) (by assumption) fun F₁ N₁ _ => ?_
    have e : addD ds x = ds ++ [x] := by unfold addD; rw [if_neg (by rw [hin]; decide)]
    exact ret _ _ _ _ _ F₁ N₁ (by rw [e]; exact hI.snoc hx) (by rw [e]; assumption)
end Mine

-- part ML
namespace Mine
-- the walker keeps the rules that it found as long as their number stays: a step under no local rule makes it look anew
theorem anewML {w : PySem.World} {A : PySem.Around} {E : PySem.Value → PySem.Shared → Prop} {Q : PySem.Flow → PySem.Shared → Prop} {s : PySem.Shared} {env : PySem.Env} (h : PySem.wpAny (PySem.model PySem.Challenge.rw_aa5017_01.row.prog w) A (PySem.execs [] env) Q E s) :
    PySem.wpAny (PySem.model PySem.Challenge.rw_aa5017_01.row.prog w) A (PySem.execs [] env) Q E s := by
  first | (walk1; fail) | exact h
end Mine
open PySem PySem.W PyProof.Rows PySem.Calls PySem.Builtin PySem.Builtin.ObjectAttr
set_option Elab.async false
set_option maxRecDepth 100000
namespace Mine
theorem map_start (m : Str → Option Value) (x : Str) : m = fun y => if y = x then m x else m y := by
  funext y
  by_cases h : y = x
  · rw [if_pos h, h]
  · rw [if_neg h]
theorem map_one {m : Str → Option Value} {x : Str} {v u : Option Value} : (fun y => if y = x then v else if y = x then u else m y) = fun y => if y = x then v else m y := by
  funext y
  by_cases h : y = x
  · simp [h]
  · simp [h]
theorem map_two {m : Str → Option Value} {x z : Str} {v u va ua : Option Value} (hne : x ≠ z) :
    (fun y => if y = z then va else if y = x then v else if y = x then u else if y = z then ua else m y) = fun y => if y = x then v else if y = z then va else m y := by
  funext y
  by_cases h : y = x
  · subst h; simp [hne]
  · by_cases h2 : y = z
    · subst h2; simp [h]
    · simp [h, h2]
theorem map_two0 {m : Str → Option Value} {x z : Str} {v u ua : Option Value} :
    (fun y => if y = x then v else if y = x then u else if y = z then ua else m y) = fun y => if y = x then v else if y = z then ua else m y := by
  funext y
  by_cases h : y = x
  · simp [h]
  · simp [h]
/-- what a turn of a loop leaves: fix, what must stand as it stood; J, what holds of the names and of the rest of the ledger -/
def TurnEnd (h₀ : Heap) (L : Addr) (I : Addr) (fix : Led) (J : (Str → Option Value) → Led → Prop) (s : Shared) (Q : Flow → Shared → Prop) (f : Flow) (s₂ : Shared) : Prop :=
  match f with
  | .ret v => Q (.ret v) s₂
  | .brk => Q .next s₂
  | _ => ∃ h' tk m₂ news₂, s₂ = { s with heap := h', toks := tk } ∧ Fr h₀ L h' m₂ ∧ News h₀ L h' (fix ++ news₂) ∧ (∀ p ∈ news₂, @Ne Nat p.1 I) ∧ J m₂ news₂
theorem TurnEnd.intro {h₀ : Heap} {L I : Addr} {fix : Led} {J : (Str → Option Value) → Led → Prop} {s : Shared} {Q : Flow → Shared → Prop} {h' : Heap} {tk : Nat} {m₂ : Str → Option Value} {news₂ : Led}
    (F : Fr h₀ L h' m₂) (N : News h₀ L h' (fix ++ news₂)) (hI : ∀ p ∈ news₂, @Ne Nat p.1 I) (hJ : J m₂ news₂) : TurnEnd h₀ L I fix J s Q .next { s with heap := h', toks := tk } :=
  ⟨h', tk, m₂, news₂, rfl, F, N, hI, hJ⟩

section
variable {prog : Program} {w : World} {A : Around} {E : Value → Shared → Prop} {s : Shared} {env : Env} {h₀ : Heap} {x : Str} {body : List Stmt} {Q : Flow → Shared → Prop} {m : Str → Option Value} {news lp : Led} {l : Addr} {ol : Obj} {items : List Value} {ne : Nat}

theorem loopSeq (J : Nat → (Str → Option Value) → Led → Prop) (hh : A.handled = none)
    (hiter : ∀ Q' : Value → Shared → Prop, Q' (.ref s.heap.objs.size) { s with heap := s.heap.push { cls := .type "list_iterator", data := .fields #[.ref l, .int 0 0] } } → wpAny (model prog w) A (pyIter (.ref l)) Q' E s)
    (hlp : lp = [(l, ol)] ∨ (lp = [] ∧ h₀.get? l = some ol)) (hd : ol.data = .seq items.toArray ne)
    (F : Fr h₀ env.locals s.heap m) (N : News h₀ env.locals s.heap (lp ++ news)) (h0 : J 0 m news)
    (turn : ∀ i v m₁ news₁ h tk oI, items[i]? = some v → J i m₁ news₁ → Fr h₀ env.locals h (fun y => if y = x then some v else m₁ y) → News h₀ env.locals h ((s.heap.objs.size, oI) :: (lp ++ news₁)) → (∀ p ∈ news₁, @Ne Nat p.1 s.heap.objs.size) →
      (∀ p ∈ lp, @Ne Nat p.1 s.heap.objs.size) → wpAny (model prog w) A (execs body env) (TurnEnd h₀ env.locals s.heap.objs.size ((s.heap.objs.size, oI) :: lp) (J (i + 1)) { s with heap := h, toks := tk } Q) E { s with heap := h, toks := tk })
    (done : ∀ h' tk m' news', Fr h₀ env.locals h' m' → News h₀ env.locals h' (lp ++ news') → J items.length m' news' → (∀ p ∈ news', @Ne Nat p.1 s.heap.objs.size) → Q .next { s with heap := h', toks := tk }) :
    wpAny (model prog w) A (pyIter (.ref l)) (fun it s₂ => LoopAtV prog w A h₀ env x body Q E it s₂) E s := by
  have hl : s.heap.get? l = some ol := by
    rcases hlp with e | ⟨_, e⟩
    · exact (N (l, ol) (by rw [e]; simp)).1
    · exact F.keep _ _ e
  have hlL : l ≠ env.locals := by
    rcases hlp with e | ⟨_, e⟩
    · exact (N (l, ol) (by rw [e]; simp)).2.1
    · exact Nat.ne_of_lt (Nat.lt_of_lt_of_le (Heap.lt_size e) F.above)
  have hne : l ≠ s.heap.objs.size := Nat.ne_of_lt (Heap.lt_size hl)
  have hI0 : h₀.get? s.heap.objs.size = none := by
    cases q : h₀.get? s.heap.objs.size with
    | none => rfl
    | some o => exact absurd (Heap.lt_size (F.keep _ _ q)) (Nat.lt_irrefl _)
  have hfree : ∀ p ∈ lp ++ news, p.1 ≠ s.heap.objs.size := fun p hp => Nat.ne_of_lt (Heap.lt_size (N p hp).1)
  have hfl : ∀ p ∈ lp, @Ne Nat p.1 s.heap.objs.size := fun p hp => hfree p (List.mem_append_left _ hp)
  have mem_lp : ∀ p ∈ lp, p = (l, ol) := fun p hp => by
    rcases hlp with e | ⟨e, _⟩
    · rw [e] at hp; exact List.mem_singleton.mp hp
    · rw [e] at hp; cases hp
  refine hiter _ ?_
  refine ⟨s.heap.objs.size, [s.heap.objs.size, l], [s.heap.objs.size], items.toArray.size, _, _, m, lp ++ news, fun i m₁ n₁ => ∃ news₁, n₁ = lp ++ news₁ ∧ J i m₁ news₁ ∧ ∀ p ∈ news₁, @Ne Nat p.1 s.heap.objs.size, rfl, walksSeq (prog := prog) (w := w) hh s.heap.objs.size l hne items.toArray, ?_, ?_, ?_,
    ⟨⟨_, Heap.get?_push_size _ rfl, rfl, rfl⟩, ol, ne, Heap.get?_push_of_some _ hl, hd⟩, F.push _, (fun p hp => ⟨Heap.get?_push_of_some _ (N p hp).1, (N p hp).2⟩), ⟨news, rfl, h0, fun p hp => hfree p (List.mem_append_right _ hp)⟩, ?_, ?_⟩
  · intro hm
    rcases List.mem_cons.mp hm with e | hm
    · exact absurd F.ns.lt (e ▸ Nat.lt_irrefl _)
    · exact hlL (List.mem_singleton.mp hm).symm
  · intro b hb
    rw [List.mem_singleton.mp hb]; exact hI0
  · intro p hp hI
    exact hfree p hp (List.mem_singleton.mp hI)
  · rintro i v m₁ n₁ s₁ own ⟨hh', tk', rfl⟩ hin hP ⟨news₁, rfl, hJ, hn₁⟩ _ hown hget hall hst F₁ N₁
    have hv : items[i]? = some v := by simpa using hP
    obtain ⟨oI, hoI, _⟩ := hst.1
    have memI : (s.heap.objs.size, oI) ∈ own := hall _ (by simp) hI0 oI hoI
    have hfp : ∀ p ∈ own, p = (s.heap.objs.size, oI) ∨ p ∈ lp := by
      intro p hp
      have hg := hget p hp
      rcases List.mem_cons.mp (hown p hp) with e | e
      · left
        rw [e, hoI] at hg
        exact Prod.ext e (Option.some.inj hg).symm
      · right
        have e := List.mem_singleton.mp e
        rcases hlp with q | ⟨_, q⟩
        · have h1 : hh'.get? l = some ol := (N₁ (l, ol) (by rw [q]; simp)).1
          rw [e, h1] at hg
          rw [q]
          exact List.mem_singleton.mpr (Prod.ext e (Option.some.inj hg).symm)
        · have := (N₁ p (List.mem_append_left _ hp)).2.2
          rw [e, q] at this; cases this
    refine wpAny_mono (turn i v m₁ news₁ hh' tk' oI hv hJ F₁ (fun p hp => ?_) hn₁ hfl) (fun f s₂ p => ?_) fun _ _ e => e
    · rcases List.mem_cons.mp hp with e | hp
      · rw [e]; exact N₁ _ (List.mem_append_left _ memI)
      · exact N₁ p (List.mem_append_right _ hp)
    · have fin : (∃ h' tk m₂ news₂, s₂ = { s with heap := h', toks := tk } ∧ Fr h₀ env.locals h' m₂ ∧ News h₀ env.locals h' (((s.heap.objs.size, oI) :: lp) ++ news₂) ∧ (∀ p ∈ news₂, @Ne Nat p.1 s.heap.objs.size) ∧ J (i + 1) m₂ news₂) →
          LoopStepU h₀ env.locals [s.heap.objs.size] own (fun m₁ n₁ => ∃ news₁, n₁ = lp ++ news₁ ∧ J (i + 1) m₁ news₁ ∧ ∀ p ∈ news₁, @Ne Nat p.1 s.heap.objs.size) { s with heap := hh', toks := tk' } .next s₂ := by
        rintro ⟨h', tk, m₂, news₂, e, F', N', hI, hJ'⟩
        refine ⟨rfl, h', tk, m₂, lp ++ news₂, e, F', fun p hp => ?_, fun p hp hq => ?_, news₂, rfl, hJ', hI⟩
        · rcases List.mem_append.mp hp with hp | hp
          · rcases hfp p hp with e | e
            · exact N' p (by rw [e]; simp)
            · exact N' p (by simp [e])
          · exact N' p (by simp only [List.cons_append, List.mem_cons]; exact .inr hp)
        · have hq := List.mem_singleton.mp hq
          rcases List.mem_append.mp hp with hp | hp
          · exact hfl p hp hq
          · exact hI p hp hq
      cases f with
      | ret v => exact .ret p
      | brk => exact .brk p
      | next => exact .next (fin p)
      | cont => exact .cont (fin p)
  · rintro h' tk m' n' F' N' _ ⟨news', rfl, hJ, hI⟩
    rw [List.size_toArray] at hJ
    exact done h' tk m' news' F' N' hJ hI
end
end Mine

-- part ME
namespace Mine
-- the walker keeps the rules that it found as long as their number stays: a step under no local rule makes it look anew
theorem anewME {w : PySem.World} {A : PySem.Around} {E : PySem.Value → PySem.Shared → Prop} {Q : PySem.Flow → PySem.Shared → Prop} {s : PySem.Shared} {env : PySem.Env} (h : PySem.wpAny (PySem.model PySem.Challenge.rw_aa5017_01.row.prog w) A (PySem.execs [] env) Q E s) :
    PySem.wpAny (PySem.model PySem.Challenge.rw_aa5017_01.row.prog w) A (PySem.execs [] env) Q E s := by
  first | (walk1; fail) | exact h
end Mine
open PySem PySem.W PyProof.Rows PySem.Calls PySem.Builtin PySem.Builtin.ObjectAttr
set_option Elab.async false
set_option maxRecDepth 100000
namespace Mine
local macro_rules | `(tactic| walk_at "getMethod type:list") => `(tactic| (k_here; refine' method_type ?F ?X ?m (by decide +kernel) ?e ?h ?_; (case F => k_asm); (case X => k_asm); (case m => exact meta_list); (case e => k_dflt k_is); (case h => k_handed)))
local macro_rules | `(tactic| k_inst) => `(tactic| (refine' inst_il ?N ?h1 ?h2; (case N => k_asm); (case h1 => k_mem); (case h2 => k_mem)))
local macro_rules | `(tactic| walk_at "getAttr ref") => `(tactic| (k_here; k_dflt (refine' getOwn_il ?k1 ?k2 ?k3 ?k4 ?k5 ?k6 ?k7 ?_; (case k1 => k_asm); (case k2 => k_asm); (case k3 => k_inst); (case k4 => k_is); (case k5 => k_is); (case k6 => k_get); (case k7 => k_handed); k_whole)))
local macro_rules | `(tactic| walk_at "getMethod ref") => `(tactic| (k_here; k_dflt (refine' method_il ?k1 ?k2 ?k3 ?k4 ?k5 ?k6 ?_; (case k1 => k_asm); (case k2 => k_asm); (case k3 => k_inst); (case k4 => k_is); (case k5 => k_is); (case k6 => k_get); k_whole)))
local macro_rules | `(tactic| walk_at "call builtin:len") => `(tactic| (k_here; (with_reducible show wpAny _ _ (call (Value.builtin "len") [Value.ref _]) _ _ _); k_dflt (refine' lenK_il ?k1 ?k2 ?k3 ?k4 ?_; (case k1 => k_asm); (case k2 => k_asm); (case k3 => k_inst); (case k4 => omega); k_whole)))
local macro_rules | `(tactic| walk_at "call builtin:list.append") => `(tactic| (k_here; k_dflt (refine' append_il ?k1 ?k2 ?k3 ?k4 ?k5 ?k6 ?_; (case k1 => k_asm); (case k2 => k_asm); (case k3 => k_asm); (case k4 => k_inst); (case k5 => k_upd); (case k6 => omega); k_whole; intro h' F' N'; k_sweep)))
local macro_rules | `(tactic| walk_at "compareOp NotIn") => `(tactic| (k_here; k_dflt (refine' notIn_K ?k1 ?k2 ?k3 ?k4 ?k5 ?k6 ?k7 ?k8 ?_; (case k1 => k_asm); (case k2 => k_asm); (case k3 => k_asm); (case k4 => k_mem); (case k5 => assumption); (case k6 => assumption); (case k7 => assumption); (case k8 => ((try simp only [units_in1, units_deeper]); (try dsimp only); omega)); k_whole; intro tk')))
local macro_rules | `(tactic| walk_at "setItem ref int") => `(tactic| (k_here; k_dflt (refine' setItem_K ?k1 ?k2 ?k3 ?k4 ?k5 ?k6 ?k7 ?k8 ?k9 ?k10 ?_; (case k1 => k_asm); (case k2 => k_asm); (case k3 => k_updF); (case k4 => k_asm); (case k5 => assumption); (case k6 => assumption); (case k7 => ((try simp only [units_in1, units_deeper]); (try dsimp only); omega)); (case k8 => omega); (case k9 => first | assumption | exact notMem_of (by assumption)); (case k10 => omega); k_whole; intro h' od' tk' D' F' N'; k_sweep)))

local macro_rules | `(tactic| walk_at "setAttr ref ref") => `(tactic| (k_here; k_dflt (refine' set_il ?k1 ?k2 ?k3 ?k4 ?k5 ?k6 ?k7 ?k8 ?k9 ?_; (case k1 => k_asm); (case k2 => k_asm); (case k3 => k_asm); (case k4 => k_inst); (case k5 => k_is); (case k6 => k_get); (case k7 => k_put); (case k8 => k_upd); (case k9 => exact Nat.le_of_ble_eq_true rfl); k_whole; intro h' F' N'; k_sweep)))
local macro_rules | `(tactic| walk_at "setAttr ref bool") => `(tactic| (k_here; k_dflt (refine' set_il ?k1 ?k2 ?k3 ?k4 ?k5 ?k6 ?k7 ?k8 ?k9 ?_; (case k1 => k_asm); (case k2 => k_asm); (case k3 => k_asm); (case k4 => k_inst); (case k5 => k_is); (case k6 => k_get); (case k7 => k_put); (case k8 => k_upd); (case k9 => exact Nat.le_of_ble_eq_true rfl); k_whole; intro h' F' N'; k_sweep)))
local macro_rules | `(tactic| walk_at "eval Dict nil nil") => `(tactic| (k_here; k_dflt (refine' dict_nil ?k1 ?k2 ?k3 ?_; (case k1 => k_asm); (case k2 => k_asm); (case k3 => k_asm); k_whole; intro d' h' F' N' l1 lo' lb'; (try k_lt l1); k_sweep)))
set_option maxHeartbeats 4000000 in
theorem rebuild_K {w : World} {A₀ : Around} {dp un : Nat} {gd : Option (List Code)} {s : Shared} {base h₀ : Heap} {outer : List Env} {L : Addr} {m : Str → Option Value} {env : Env} {rest : Led}
    {mean : ExcName → Option Value} {mg mb : Str → Option Value} {P : Addr → Obj → Prop} {a ns d : Addr} {items : List Value} {n : Nat} {t1 t2 : Tok} {b : Bool} {ds : List Dt} {Q E : Value → Shared → Prop}
    (B : Below A₀ base outer h₀) (F : Fr h₀ L s.heap m) (X₀ : (hd.heap_39 w.params).In h₀) (T : TP mean mg mb h₀) (hf : env.frame = some L) (hke : env.scope.kind = .function)
    (hroom : dp + 9 < recursionLimit) (hu : un + 90 < cLine)
    (N : News h₀ L s.heap ([(a, ilObj ns items n), (ns, nsObj w t1 t2 b d)] ++ rest)) (dis : ∀ q ∈ [(a, ilObj ns items n), (ns, nsObj w t1 t2 b d)], ∀ r ∈ rest, q.1 ≠ r.1)
    (h1 : @Ne Nat a ns) (hP : PIn P h₀ rest) (hI : Dens w P items ds) (hnd : ds.Nodup) (hlen : ds.length ≤ 1000)
    (ret : ∀ h' tk' d' od', Fr h₀ L h' m → News h₀ L h' ([(a, ilObj ns items n), (ns, nsObj w t1 t2 true d'), (d', od')] ++ rest) → DictI pg w P od' ds → (∀ q ∈ rest, @LT.lt Nat _ q.1 d') → (∀ b o, h₀.get? b = some o → @LT.lt Nat _ b d') → @LT.lt Nat _ a d' → @LT.lt Nat _ ns d' → (d' == sysModules) = false →
      Q .none { s with heap := h', toks := tk' }) :
    wpAny (model pg w) (topA dp un gd env outer) (call (.ref 37) [.ref a]) Q E s := by
  have fill : (PySem.Challenge.rw_aa5017_01, hd.heap_39) = (PySem.Challenge.rw_aa5017_01, hd.heap_39) := by k_fill; rfl
  refine wpAny_call ?_
  k_dflt (refine' enterL (binds := [(Str.ofString "self", .ref a)]) B F X₀ N dis T ?kA hf hke ?k6 ?k7 ?k8 ?k9 ?kB ?_ ?c2 ?c3 ?c4 ?c5; (case kA => exact rfl); (case k6 => k_is); (case k7 => k_is); (case k8 => (show dp < recursionLimit; omega)); (case k9 => exact BindsTo.of_eq rfl); (case kB => exact locs rfl); (case c2 => exact rfl); (case c3 => exact rfl); (case c4 => exact rfl); (case c5 => decide); k_whole)
  intro g' L' h' st hr F' N' B' X' T' hg lt
  (try dsimp only)
  k_fold
  have hPg : TupsIn P g' := fun b o p c => (hP b o p c).elim (st b o) (hr _)
  have hlen' := hI.length
  k_steps
  rename Fr _ _ _ _ => Fl
  rename News _ _ _ _ => Nl
  rename (_ == sysModules) = false => lo'
  rename _ < _ ∧ _ < _ => l1
  rename ∀ b o, g'.get? b = some o → _ => lb'
  rename Addr => d'
  refine loopSeq (lp := [(a, ilObj ns items n)]) (news := [(ns, nsObj w t1 t2 b d'), (d', dictOf [] 0)])
    (fun i m₁ news₁ => ∃ u tk o, m₁ = (fun y => if y = Str.ofString "value" then u else if y = Str.ofString "idx" then some (.int (i : Nat) tk) else List.lookup y [(Str.ofString "self", Value.ref a)].reverse) ∧
      news₁ = [(ns, nsObj w t1 t2 b d'), (d', o)] ∧ DictI pg w P o (ds.take i)) rfl
    (fun Q' hQ => iter_il (X'.keeps Fl.keep) (inst_il Nl (.tail _ (.head _)) (.tail _ (.tail _ (.head _)))) hQ) (.inl rfl) rfl Fl
    (fun p hp => Nl p (by simp only [List.cons_append, List.nil_append, List.mem_cons, List.not_mem_nil, or_false] at hp ⊢; rcases hp with h | h | h <;> simp [h]))
    ⟨_, _, _, map_start _ _, rfl, by simpa using DictI.nil⟩ ?_ ?_
  · rintro i v m₁ news₁ h tk oI hv ⟨u, tki, o, rfl, rfl, hDo⟩ F₁ N₁ hne _
    obtain ⟨x, hxi, hx⟩ := hI.get i v hv
    have hlt : i < ds.length := (List.getElem?_eq_some_iff.mp hxi).1
    have hti : (ds.take i).length = i := by rw [List.length_take]; omega
    have hnin : inD x (ds.take i) = false := by
      cases q : inD x (ds.take i) with
      | false => rfl
      | true =>
        obtain ⟨j, hj⟩ := List.mem_iff_getElem?.mp (inD_iff.mp q)
        have hji : j < i := by have := (List.getElem?_eq_some_iff.mp hj).1; rw [List.length_take] at this; omega
        rw [List.getElem?_take_of_lt hji] at hj
        have := (List.getElem?_inj (by omega) hnd).mp (hj.trans hxi.symm)
        omega
    simp only [List.cons_append, List.nil_append] at N₁
    have hne2 := hne _ (.head _)
    have hne3 := hne _ (.tail _ (.head _))
    clear hne Fl Nl
    dsimp only at N₁ hne2 hne3 F₁
    show wpAny _ _ _ _ _ _
    k_fold
    k_steps
    rename Fr _ _ _ _ => F2
    rename News _ _ _ _ => N2
    rename DictI _ _ _ _ (_ ++ _) => D2
    refine TurnEnd.intro (news₂ := [(ns, nsObj w t1 t2 b d'), (d', _)]) F2 N2 (fun p hp => ?_) ⟨some v, _, _, map_two (by decide), rfl, ?_⟩
    · rcases List.mem_cons.mp hp with e | hp
      · rw [e]; exact hne2
      · rw [List.mem_singleton.mp hp]; exact hne3
    · rw [List.take_add_one, hxi]; exact D2
  · rintro h2 tk m2 news2 F2 N2 ⟨u, tki, o, rfl, rfl, hDo⟩ _
    simp only [List.cons_append, List.nil_append] at N2
    clear Fl Nl
    rw [hlen', List.take_length] at hDo
    dsimp only
    k_steps
    rename Fr g' _ _ _ => F3
    rename News g' _ _ _ => N3
    exact LeaveL.intro F3 N3 fun F₁ N₁ _ => ret _ _ _ _ F₁ N₁ hDo (fun q hq => lb' _ _ (hr q hq)) (fun b o c => lb' b o (st b o c)) l1.1 l1.2 lo'
end Mine

-- part MF
namespace Mine
-- the walker keeps the rules that it found as long as their number stays: a step under no local rule makes it look anew
theorem anewMF {w : PySem.World} {A : PySem.Around} {E : PySem.Value → PySem.Shared → Prop} {Q : PySem.Flow → PySem.Shared → Prop} {s : PySem.Shared} {env : PySem.Env} (h : PySem.wpAny (PySem.model PySem.Challenge.rw_aa5017_01.row.prog w) A (PySem.execs [] env) Q E s) :
    PySem.wpAny (PySem.model PySem.Challenge.rw_aa5017_01.row.prog w) A (PySem.execs [] env) Q E s := by
  first | (walk1; fail) | exact h
end Mine
open PySem PySem.W PyProof.Rows PySem.Calls PySem.Builtin PySem.Builtin.ObjectAttr
set_option Elab.async false
set_option maxRecDepth 100000
namespace Mine
theorem TupsIn.sub {P P2 : Addr → Obj → Prop} {g : Heap} (h : TupsIn P2 g) (sub : ∀ b o, P b o → o.cls = .type "tuple" → P2 b o) : TupsIn P g := fun b o p c => h b o (sub b o p c) c
local macro_rules | `(tactic| walk_at "getMethod type:list") => `(tactic| (k_here; refine' method_type ?F ?X ?m (by decide +kernel) ?e ?h ?_; (case F => k_asm); (case X => k_asm); (case m => exact meta_list); (case e => k_dflt k_is); (case h => k_handed)))
local macro_rules | `(tactic| k_inst) => `(tactic| (refine' inst_il ?N ?h1 ?h2; (case N => k_asm); (case h1 => k_mem); (case h2 => k_mem)))
local macro_rules | `(tactic| walk_at "getAttr ref") => `(tactic| (k_here; k_dflt (refine' getOwn_il ?k1 ?k2 ?k3 ?k4 ?k5 ?k6 ?k7 ?_; (case k1 => k_asm); (case k2 => k_asm); (case k3 => k_inst); (case k4 => k_is); (case k5 => k_is); (case k6 => k_get); (case k7 => k_handed); k_whole)))
local macro_rules | `(tactic| walk_at "getMethod ref") => `(tactic| (k_here; k_dflt (refine' method_il ?k1 ?k2 ?k3 ?k4 ?k5 ?k6 ?_; (case k1 => k_asm); (case k2 => k_asm); (case k3 => k_inst); (case k4 => k_is); (case k5 => k_is); (case k6 => k_get); k_whole)))
local macro_rules | `(tactic| walk_at "call builtin:len") => `(tactic| (k_here; (with_reducible show wpAny _ _ (call (Value.builtin "len") [Value.ref _]) _ _ _); k_dflt (refine' lenK_il ?k1 ?k2 ?k3 ?k4 ?_; (case k1 => k_asm); (case k2 => k_asm); (case k3 => k_inst); (case k4 => omega); k_whole)))
local macro_rules | `(tactic| walk_at "call builtin:list.append") => `(tactic| (k_here; k_dflt (refine' append_il ?k1 ?k2 ?k3 ?k4 ?k5 ?k6 ?_; (case k1 => k_asm); (case k2 => k_asm); (case k3 => k_asm); (case k4 => k_inst); (case k5 => k_upd); (case k6 => omega); k_whole; intro h' F' N'; k_sweep)))
local macro_rules | `(tactic| walk_at "compareOp NotIn") => `(tactic| (k_here; k_dflt (refine' notIn_K ?k1 ?k2 ?k3 ?k4 ?k5 ?k6 ?k7 ?k8 ?_; (case k1 => k_asm); (case k2 => k_asm); (case k3 => k_asm); (case k4 => k_mem); (case k5 => assumption); (case k6 => assumption); (case k7 => assumption); (case k8 => ((try simp only [units_in1, units_deeper]); (try dsimp only); omega)); k_whole; intro tk')))
local macro_rules | `(tactic| walk_at "setItem ref int") => `(tactic| (k_here; k_dflt (refine' setItem_K ?k1 ?k2 ?k3 ?k4 ?k5 ?k6 ?k7 ?k8 ?k9 ?k10 ?_; (case k1 => k_asm); (case k2 => k_asm); (case k3 => k_updF); (case k4 => k_asm); (case k5 => assumption); (case k6 => assumption); (case k7 => ((try simp only [units_in1, units_deeper]); (try dsimp only); omega)); (case k8 => omega); (case k9 => first | assumption | exact notMem_of (by assumption)); (case k10 => omega); k_whole; intro h' od' tk' D' F' N'; k_sweep)))

local macro_rules | `(tactic| walk_at "setAttr ref ref") => `(tactic| (k_here; k_dflt (refine' set_il ?k1 ?k2 ?k3 ?k4 ?k5 ?k6 ?k7 ?k8 ?k9 ?_; (case k1 => k_asm); (case k2 => k_asm); (case k3 => k_asm); (case k4 => k_inst); (case k5 => k_is); (case k6 => k_get); (case k7 => k_put); (case k8 => k_upd); (case k9 => exact Nat.le_of_ble_eq_true rfl); k_whole; intro h' F' N'; k_sweep)))
local macro_rules | `(tactic| walk_at "setAttr ref bool") => `(tactic| (k_here; k_dflt (refine' set_il ?k1 ?k2 ?k3 ?k4 ?k5 ?k6 ?k7 ?k8 ?k9 ?_; (case k1 => k_asm); (case k2 => k_asm); (case k3 => k_asm); (case k4 => k_inst); (case k5 => k_is); (case k6 => k_get); (case k7 => k_put); (case k8 => k_upd); (case k9 => exact Nat.le_of_ble_eq_true rfl); k_whole; intro h' F' N'; k_sweep)))
local macro_rules | `(tactic| walk_at "eval Dict nil nil") => `(tactic| (k_here; k_dflt (refine' dict_nil ?k1 ?k2 ?k3 ?_; (case k1 => k_asm); (case k2 => k_asm); (case k3 => k_asm); k_whole; intro d' h' F' N' l1 lo' lb'; (try k_lt l1); k_sweep)))
local macro_rules | `(tactic| walk_at "compareOp In") => `(tactic| (k_here; k_dflt (refine' in_K ?k1 ?k2 ?k3 ?k4 ?k5 ?k6 ?k7 ?k8 ?_; (case k1 => k_asm); (case k2 => k_asm); (case k3 => k_asm); (case k4 => k_mem); (case k6 => assumption); (case k5 => first | assumption | exact DictI.mono (by assumption) (by assumption)); (case k7 => assumption); (case k8 => ((try simp only [units_in1, units_deeper]); (try dsimp only); omega)); k_whole; intro tk')))
local macro_rules | `(tactic| walk_at "call ref nil") => `(tactic| (k_here; (try dsimp only); (with_reducible show wpAny _ _ (call (Value.ref 37) _) _ _ _); k_dflt (refine' rebuild_K ?kB ?kF ?kX ?kT ?khf ?khk ?kr ?ku ?kN ?kd ?k1 ?kP ?kI ?kn ?kl ?_; (case kB => k_asm); (case kF => k_asm); (case kX => k_asm); (case kT => k_asm); (case khf => exact rfl); (case khk => exact rfl); (case kr => ((try dsimp only [topA, Around.deeper]); omega)); (case ku => ((try dsimp only [topA, Around.deeper]); omega)); (case kN => k_asm); (case kd => (intro q hq r hr; simp only [List.mem_cons, List.not_mem_nil, or_false] at hq hr; rcases hq with hq | hq <;> subst hq <;> subst hr <;> (refine neN ?_; dsimp only; omega))); (case k1 => omega); (case kI => assumption); (case kP => exact PIn.nil (TupsIn.sub (by assumption) (by assumption)) _); (case kn => assumption); (case kl => assumption); k_whole; intro h' tk' d' od' F' N' D' l1 l4 l2 l3 lo'; (simp only [List.cons_append, List.nil_append] at N'); k_sweep)))

set_option maxHeartbeats 4000000 in
theorem contains_K {w : World} {A₀ : Around} {dp un : Nat} {gd : Option (List Code)} {s : Shared} {base h₀ : Heap} {outer : List Env} {L : Addr} {m : Str → Option Value} {env : Env} {rest : Led}
    {mean : ExcName → Option Value} {mg mb : Str → Option Value} {P P2 : Addr → Obj → Prop} {a ns d : Addr} {items : List Value} {n : Nat} {t1 t2 : Tok} {b : Bool} {od : Obj} {ds : List Dt} {v : Value} {x : Dt} {Q E : Value → Shared → Prop}
    (B : Below A₀ base outer h₀) (F : Fr h₀ L s.heap m) (X₀ : (hd.heap_39 w.params).In h₀) (T : TP mean mg mb h₀) (hf : env.frame = some L) (hke : env.scope.kind = .function)
    (hroom : dp + 19 < recursionLimit) (hu : un + 190 < cLine)
    (N : News h₀ L s.heap ([(a, ilObj ns items n), (ns, nsObj w t1 t2 b d), (d, od)] ++ rest)) (dis : ∀ q ∈ [(a, ilObj ns items n), (ns, nsObj w t1 t2 b d), (d, od)], ∀ r ∈ rest, q.1 ≠ r.1)
    (h1 : @Ne Nat a ns) (h2 : @Ne Nat a d) (h3 : @Ne Nat ns d) (hP : PIn P2 h₀ rest) (sub : ∀ b o, P b o → o.cls = .type "tuple" → P2 b o) (hI : Dens w P items ds) (hD : DictI pg w P od ds) (hx : DenP pg w P2 v x) (lo : (d == sysModules) = false) (hlen : ds.length ≤ 1000)
    (ret : ∀ h' tk' d' od', Fr h₀ L h' m → News h₀ L h' ([(a, ilObj ns items n), (ns, nsObj w t1 t2 true d'), (d', od')] ++ rest) → DictI pg w P od' ds → (∀ q ∈ rest, @Ne Nat q.1 d') → (∀ b o, h₀.get? b = some o → @Ne Nat b d') → @Ne Nat a d' → @Ne Nat ns d' → (d' == sysModules) = false →
      Q (.bool (inD x ds)) { s with heap := h', toks := tk' }) :
    wpAny (model pg w) (topA dp un gd env outer) (call (.ref 44) [.ref a, v]) Q E s := by
  have fill : (PySem.Challenge.rw_aa5017_01, hd.heap_39) = (PySem.Challenge.rw_aa5017_01, hd.heap_39) := by k_fill; rfl
  refine wpAny_call ?_
  k_dflt (refine' enterL (binds := [(Str.ofString "self", .ref a), (Str.ofString "value", v)]) B F X₀ N dis T ?kA hf hke ?k6 ?k7 ?k8 ?k9 ?kB ?_ ?c2 ?c3 ?c4 ?c5; (case kA => exact rfl); (case k6 => k_is); (case k7 => k_is); (case k8 => (show dp < recursionLimit; omega)); (case k9 => exact BindsTo.of_eq rfl); (case kB => exact locs rfl); (case c2 => exact rfl); (case c3 => exact rfl); (case c4 => exact rfl); (case c5 => decide); k_whole)
  intro g' L' h' st hr F' N' B' X' T' hg lt
  (try dsimp only)
  k_fold
  have hPg : TupsIn P2 g' := fun b o p c => (hP b o p c).elim (st b o) (hr _)
  have hlen' := hI.length
  have hnd := hD.nodup
  cases b with
  | true =>
    k_steps
    rename Fr g' _ _ _ => F3
    rename News g' _ _ _ => N3
    exact LeaveL.intro F3 N3 fun F₁ N₁ _ => ret _ _ _ _ F₁ N₁ hD (fun q hq => (dis (d, od) (by simp) q hq).symm) (fun b o c e => by have := (N (d, od) (by simp)).2.2; rw [← show b = d from e, c] at this; cases this) h2 h3 lo
  | false =>
    k_steps
    rename Fr g' _ _ _ => F3
    rename News g' _ _ _ => N3
    rename DictI _ _ _ _ _ => D2
    rename ∀ b o, g'.get? b = some o → _ => lb'
    exact LeaveL.intro F3 N3 fun F₁ N₁ _ => ret _ _ _ _ F₁ (fun p hp => N₁ p (by simp only [List.cons_append, List.nil_append, List.mem_cons] at hp ⊢; rcases hp with h | h | h | h <;> simp [h])) D2 (fun q hq => Nat.ne_of_lt (lb' _ _ (hr q hq))) (fun b o c => Nat.ne_of_lt (lb' b o (st b o c))) (by omega) (by omega) (by assumption)
end Mine

-- part MP
namespace Mine
-- the walker keeps the rules that it found as long as their number stays: a step under no local rule makes it look anew
theorem anewMP {w : PySem.World} {A : PySem.Around} {E : PySem.Value → PySem.Shared → Prop} {Q : PySem.Flow → PySem.Shared → Prop} {s : PySem.Shared} {env : PySem.Env} (h : PySem.wpAny (PySem.model PySem.Challenge.rw_aa5017_01.row.prog w) A (PySem.execs [] env) Q E s) :
    PySem.wpAny (PySem.model PySem.Challenge.rw_aa5017_01.row.prog w) A (PySem.execs [] env) Q E s := by
  first | (walk1; fail) | exact h
end Mine
open PySem PySem.W PyProof.Rows PySem.Calls PySem.Builtin PySem.Builtin.ObjectAttr
set_option Elab.async false
set_option maxRecDepth 100000
namespace Mine
section
variable {prog : Program} {w : World} {A : Around} {s : Shared} {env : Env} {h₀ : Heap}

/-- a turn of a loop over pairs: what it leaves -/
def PairTurn (h₀ : Heap) (L : Addr) (fp wr : List Addr) (h₅ : Heap) (Jn : (Str → Option Value) → Led → Prop) (s : Shared) (Q : Flow → Shared → Prop) (f : Flow) (s₃ : Shared) : Prop :=
  match f with
  | .ret v => Q (.ret v) s₃
  | .brk => Q .next s₃
  | _ => ∃ h' tk m₂ news₂, s₃ = { s with heap := h', toks := tk } ∧ Fr h₀ L h' m₂ ∧ News h₀ L h' news₂ ∧ (∀ b ∈ fp, ∀ o, h₅.get? b = some o → h'.get? b = some o) ∧ (∀ p ∈ news₂, p.1 ∉ wr) ∧ Jn m₂ news₂

theorem codeAny_pairU {R : Result → Shared → Prop} {xi xc : Str} {pk pv pt : Pos} {x1 : Nat} {body : List Stmt} {I : Addr} {fp wr : List Addr} {n : Nat} {Pt : Nat → Array Value → Prop} {St : Nat → Heap → Prop} {Mid : Nat → Addr → Heap → Prop}
    {P2 : Nat → Value → Value → Prop} {m : Str → Option Value} {news : Led} (hh : A.handled = none) (W : WalksT prog w A I fp wr n Pt St Mid) (h2 : ∀ i vals, Pt i vals → ∃ v0 v1, vals = #[v0, v1] ∧ P2 i v0 v1)
    (hxi : env.kindOf xi = some .local) (hxc : env.kindOf xc = some .local)
    (hp : (env.scope.kind == .class || (env.scope.kind == .module && env.locals != env.globals)) = false)
    (hLf : env.locals ∉ fp) (hwr : ∀ b ∈ wr, h₀.get? b = none) (hnw : ∀ p ∈ news, p.1 ∉ wr)
    (hst : St 0 s.heap) (F : Fr h₀ env.locals s.heap m) (N : News h₀ env.locals s.heap news)
    (J : Nat → (Str → Option Value) → Led → Prop) (h0 : J 0 m news)
    (step : ∀ i v0 v1 m₁ news₁ h₅ tk₅, i < n → P2 i v0 v1 → J i m₁ news₁ → (∀ p ∈ news₁, p.1 ∉ wr) → St (i + 1) h₅ →
      Fr h₀ env.locals h₅ (fun y => if y = xc then some v1 else if y = xi then some v0 else m₁ y) → News h₀ env.locals h₅ news₁ →
      wpAny (model prog w) A (execs body env) (PairTurn h₀ env.locals fp wr h₅ (J (i + 1)) s (fun f s' => R (.ok f) s')) (notedBy (model prog w) A env fun e s' => R (.error e) s') { s with heap := h₅, toks := tk₅ })
    (hR : ∀ h' tk m' news', Fr h₀ env.locals h' m' → News h₀ env.locals h' news' → (∀ p ∈ news', p.1 ∉ wr) → J n m' news' → R (.ok .next) { s with heap := h', toks := tk }) :
    codeAny (model prog w) A (.forLoop (.Tuple [.Name xi pk, .Name xc pv] x1 pt) (.ref I) body [] env) R s := by
  have hLw : env.locals ∉ wr := fun h => hLf (W.sub _ h)
  have old : ∀ b o, h₀.get? b = some o → b ∉ wr := fun b o e hb => by rw [hwr b hb] at e; cases e
  refine codeAny_forLoop_any
    (fun k s' => ∃ h' tk m' news' i, s' = { s with heap := h', toks := tk } ∧ St i h' ∧ Fr h₀ env.locals h' m' ∧ News h₀ env.locals h' news' ∧ (∀ p ∈ news', p.1 ∉ wr) ∧ J i m' news' ∧ i ≤ n ∧ k = n + 1 - i) ?_ (n + 1)
    ⟨s.heap, s.toks, m, news, 0, rfl, hst, F, N, hnw, h0, Nat.zero_le _, rfl⟩
  rintro k s' ⟨H, tk, m', news', i, rfl, hst', F', N', hnw', hJ, hi, rfl⟩
  have next : ∀ h₁ : Heap, (∀ b o, b ∉ wr → H.get? b = some o → h₁.get? b = some o) → Fr h₀ env.locals h₁ m' ∧ News h₀ env.locals h₁ news' := fun h₁ hk₁ =>
    ⟨⟨F'.ns.at' fun o e => hk₁ _ o hLw e, fun b o e => hk₁ b o (old b o e) (F'.keep b o e), F'.above⟩, fun p hp => ⟨hk₁ _ _ (hnw' p hp) (N' p hp).1, (N' p hp).2⟩⟩
  by_cases hlt : i < n
  · refine W.item i _ _ _ hlt hst' fun T vals h₁ tk₁ hPt _ hT hMid hk₁ => ?_
    obtain ⟨v0, v1, rfl, hP2⟩ := h2 i vals hPt
    refine W.go _ x1 pt i T _ _ _ hMid fun h₂ hst₂ hk₂ => ?_
    have ht₂ : h₂.IsTuple T #[v0, v1] := hT.at fun o e => hk₂ T o (W.apart i T h₁ hMid) e
    refine wpAny_assign_Tuple hh ht₂ rfl rfl fun h₃ hx₃ => ?_
    replace hx₃ : Heap.ExtBut h₂.objs.size h₂ h₃ := hx₃
    have up₃ : ∀ b o, h₂.get? b = some o → h₃.get? b = some o := fun b o x => hx₃ b o (Nat.ne_of_lt (Heap.lt_size x)) x
    obtain ⟨F₃, N₃⟩ := next h₃ fun b o hb x => up₃ b o (hk₂ b o hb (hk₁ b o hb x))
    show wpAny _ A (do holding [v1] (assign (.Name xi pk) env v0); do holding [] (assign (.Name xc pv) env v1); pure ()) _ _ _
    refine wpAny_bind (wpAny_holding (wpAny_assign_Name (wpAny_storeName_local hxi F₃.ns (fun h₄ hn₄ hs₄ => ?_) hp)))
    replace hs₄ : Heap.SameBut env.locals h₃ h₄ := hs₄
    have F₄ := F₃.set hn₄ hs₄
    refine wpAny_bind (wpAny_holding (wpAny_assign_Name (wpAny_storeName_local hxc F₄.ns (fun h₅ hn₅ hs₅ => wpAny_pure ?_) hp)))
    replace hs₅ : Heap.SameBut env.locals h₄ h₅ := hs₅
    have F₅ := F₄.set hn₅ hs₅
    have N₅ : News h₀ env.locals h₅ news' := (N₃.set hs₄).set hs₅
    have hst₅ : St (i + 1) h₅ := W.frame _ _ _ hst₂ fun b hb o e => hs₅.extBut b o (fun q => hLf (q ▸ hb)) (hs₄.extBut b o (fun q => hLf (q ▸ hb)) (up₃ b o e))
    refine wpAny_mono (step i v0 v1 m' news' h₅ _ hlt hP2 hJ hnw' hst₅ F₅ N₅) (fun f s₃ h₆ => ?_) fun _ _ e => e
    cases f with
    | ret v => exact h₆
    | brk => exact h₆
    | cont =>
      obtain ⟨h₆', tk₆, m₂, news₂, rfl, F₆, N₆, hf₆, hw₆, hJ₆⟩ := h₆
      exact ⟨n + 1 - (i + 1), by omega, h₆', tk₆, m₂, news₂, i + 1, rfl, W.frame _ _ _ hst₅ hf₆, F₆, N₆, hw₆, hJ₆, hlt, rfl⟩
    | next =>
      obtain ⟨h₆', tk₆, m₂, news₂, rfl, F₆, N₆, hf₆, hw₆, hJ₆⟩ := h₆
      exact ⟨n + 1 - (i + 1), by omega, h₆', tk₆, m₂, news₂, i + 1, rfl, W.frame _ _ _ hst₅ hf₆, F₆, N₆, hw₆, hJ₆, hlt, rfl⟩
  · have hin : i = n := by omega
    subst hin
    refine W.done _ _ _ hst' fun h₁ tk₁ hk₁ => wpAny_execs_nil ?_
    obtain ⟨F₁, N₁⟩ := next h₁ hk₁
    exact hR h₁ tk₁ m' news' F₁ N₁ hnw' hJ

def PairAtU (prog : Program) (w : World) (A : Around) (h₀ : Heap) (env : Env) (xi xc : Str) (body : List Stmt) (Q : Flow → Shared → Prop) (E : Value → Shared → Prop) (it : Value) (s₂ : Shared) : Prop :=
  ∃ (I : Addr) (fp wr : List Addr) (n : Nat) (Pt : Nat → Array Value → Prop) (St : Nat → Heap → Prop) (Mid : Nat → Addr → Heap → Prop) (P2 : Nat → Value → Value → Prop) (m : Str → Option Value) (news : Led)
    (J : Nat → (Str → Option Value) → Led → Prop),
    it = .ref I ∧ WalksT prog w A I fp wr n Pt St Mid ∧ (∀ i vals, Pt i vals → ∃ v0 v1, vals = #[v0, v1] ∧ P2 i v0 v1) ∧ env.locals ∉ fp ∧ (∀ b ∈ wr, h₀.get? b = none) ∧ (∀ p ∈ news, p.1 ∉ wr) ∧ St 0 s₂.heap ∧
    Fr h₀ env.locals s₂.heap m ∧ News h₀ env.locals s₂.heap news ∧ J 0 m news ∧
    (∀ i v0 v1 m₁ news₁ h₅ tk₅, i < n → P2 i v0 v1 → J i m₁ news₁ → (∀ p ∈ news₁, p.1 ∉ wr) → St (i + 1) h₅ →
      Fr h₀ env.locals h₅ (fun y => if y = xc then some v1 else if y = xi then some v0 else m₁ y) → News h₀ env.locals h₅ news₁ →
      wpAny (model prog w) A (execs body env) (PairTurn h₀ env.locals fp wr h₅ (J (i + 1)) s₂ Q) E { s₂ with heap := h₅, toks := tk₅ }) ∧
    (∀ h' tk m' news', Fr h₀ env.locals h' m' → News h₀ env.locals h' news' → (∀ p ∈ news', p.1 ∉ wr) → J n m' news' → Q .next { s₂ with heap := h', toks := tk })

theorem For_pairU {E : Value → Shared → Prop} {Q : Flow → Shared → Prop} {xi xc : Str} {pk pv pt pos : Pos} {x1 : Nat} {iter : Expr} {body : List Stmt} {m : Str → Option Value} (_F : Fr h₀ env.locals s.heap m) (hh : A.handled = none)
    (hxi : env.kindOf xi = some .local) (hxc : env.kindOf xc = some .local)
    (hp : (env.scope.kind == .class || (env.scope.kind == .module && env.locals != env.globals)) = false)
    (h : wpAny (model prog w) A (eval iter env) (fun xv s₁ => wpAny (model prog w) A (pyIter xv) (fun it s₂ => PairAtU prog w A h₀ env xi xc body Q E it s₂) E s₁) E s)
    (hs : ∀ x, foldedSetIterable iter env x = pure x)
    (hE : PassesOwn (model prog w) A env E := by passes_own) :
    wpAny (model prog w) A (exec (.For (.Tuple [.Name xi pk, .Name xc pv] x1 pt) iter body [] pos) env) Q E s := by
  refine wpAny_For (wpAny_mono h (fun xv s₁ h₁ => wpAny_mono h₁ (fun it s₂ h₂ => ?_) fun _ _ e => e) fun _ _ e => e) hs
  obtain ⟨I, fp, wr, n, Pt, St, Mid, P2, m, news, J, rfl, W, h2, hLf, hwr, hnw, hst, F, N, h0, step, hQ⟩ := h₂
  exact codeAny_pairU (R := fun r s' => match r with | .ok f => Q f s' | .error e => cameBackBy (model prog w) A env E e s') hh W h2 hxi hxc hp hLf hwr hnw hst F N J h0 (by intros; exact wpAny_passesOwn hE (by apply step <;> assumption)) hQ

/-- what a turn of a loop over enumerate leaves -/
def TurnEnd2 (h₀ : Heap) (L : Addr) (e it : Addr) (fix : Led) (J : (Str → Option Value) → Led → Prop) (s : Shared) (Q : Flow → Shared → Prop) (f : Flow) (s₂ : Shared) : Prop :=
  match f with
  | .ret v => Q (.ret v) s₂
  | .brk => Q .next s₂
  | _ => ∃ h' tk m₂ news₂, s₂ = { s with heap := h', toks := tk } ∧ Fr h₀ L h' m₂ ∧ News h₀ L h' (fix ++ news₂) ∧ (∀ p ∈ news₂, @Ne Nat p.1 e ∧ @Ne Nat p.1 it) ∧ J m₂ news₂
theorem TurnEnd2.intro {L e it : Addr} {fix : Led} {J : (Str → Option Value) → Led → Prop} {Q : Flow → Shared → Prop} {h' : Heap} {tk : Nat} {m₂ : Str → Option Value} {news₂ : Led}
    (F : Fr h₀ L h' m₂) (N : News h₀ L h' (fix ++ news₂)) (hI : ∀ p ∈ news₂, @Ne Nat p.1 e ∧ @Ne Nat p.1 it) (hJ : J m₂ news₂) : TurnEnd2 h₀ L e it fix J s Q .next { s with heap := h', toks := tk } :=
  ⟨h', tk, m₂, news₂, rfl, F, N, hI, hJ⟩

variable {E : Value → Shared → Prop} {Q : Flow → Shared → Prop} {xi xc : Str} {body : List Stmt} {m : Str → Option Value} {news lp : Led} {l : Addr} {ol : Obj} {items : List Value} {ne : Nat}
theorem loopEnum (J : Nat → (Str → Option Value) → Led → Prop) (hh : A.handled = none)
    (hcall : ∀ Q' : Value → Shared → Prop, (∀ h', IsEnum h' (s.heap.objs.size + 1) s.heap.objs.size 0 .none → h'.IsListIter s.heap.objs.size l 0 → h'.objs.size = s.heap.objs.size + 2 →
      (∀ b o, s.heap.get? b = some o → h'.get? b = some o) → Q' (.ref (s.heap.objs.size + 1)) { s with heap := h' }) → wpAny (model prog w) A (call (.type "enumerate") [.ref l]) Q' E s)
    (hlp : lp = [(l, ol)] ∨ (lp = [] ∧ h₀.get? l = some ol)) (hd : ol.data = .seq items.toArray ne)
    (F : Fr h₀ env.locals s.heap m) (N : News h₀ env.locals s.heap (lp ++ news)) (h0 : J 0 m news)
    (turn : ∀ i t v m₁ news₁ h tk oE oI, items[i]? = some v → J i m₁ news₁ → Fr h₀ env.locals h (fun y => if y = xc then some v else if y = xi then some (.int (i : Nat) t) else m₁ y) →
      News h₀ env.locals h ((s.heap.objs.size + 1, oE) :: (s.heap.objs.size, oI) :: (lp ++ news₁)) → (∀ p ∈ lp ++ news₁, @Ne Nat p.1 (s.heap.objs.size + 1) ∧ @Ne Nat p.1 s.heap.objs.size) →
      wpAny (model prog w) A (execs body env) (TurnEnd2 h₀ env.locals (s.heap.objs.size + 1) s.heap.objs.size ((s.heap.objs.size + 1, oE) :: (s.heap.objs.size, oI) :: lp) (J (i + 1)) { s with heap := h, toks := tk } Q) E { s with heap := h, toks := tk })
    (done : ∀ h' tk m' news', Fr h₀ env.locals h' m' → News h₀ env.locals h' (lp ++ news') → J items.length m' news' → Q .next { s with heap := h', toks := tk }) :
    wpAny (model prog w) A (call (.type "enumerate") [.ref l]) (fun xv s₁ => wpAny (model prog w) A (pyIter xv) (fun it s₂ => PairAtU prog w A h₀ env xi xc body Q E it s₂) E s₁) E s := by
  have hl : s.heap.get? l = some ol := by
    rcases hlp with e | ⟨_, e⟩
    · exact (N (l, ol) (by rw [e]; simp)).1
    · exact F.keep _ _ e
  have hlL : l ≠ env.locals := by
    rcases hlp with e | ⟨_, e⟩
    · exact (N (l, ol) (by rw [e]; simp)).2.1
    · exact Nat.ne_of_lt (Nat.lt_of_lt_of_le (Heap.lt_size e) F.above)
  have hll : @LT.lt Nat _ l s.heap.objs.size := Heap.lt_size hl
  have hne : l ≠ s.heap.objs.size := Nat.ne_of_lt hll
  have hLs : @LT.lt Nat _ env.locals s.heap.objs.size := F.ns.lt
  have h0s : h₀.objs.size ≤ s.heap.objs.size := Nat.le_of_lt (Nat.lt_of_le_of_lt F.above hLs)
  have hI0 : h₀.get? s.heap.objs.size = none := Heap.get?_none_of_le h0s
  have hE0 : h₀.get? (s.heap.objs.size + 1) = none := Heap.get?_none_of_le (Nat.le_succ_of_le h0s)
  have hfree : ∀ p ∈ lp ++ news, @LT.lt Nat _ p.1 s.heap.objs.size := fun p hp => Heap.lt_size (N p hp).1
  refine hcall _ fun h' he hit hsz hk => ?_
  have F' : Fr h₀ env.locals h' m := ⟨F.ns.keeps hk, fun b o e => hk b o (F.keep b o e), F.above⟩
  have N' : News h₀ env.locals h' (lp ++ news) := fun p hp => ⟨hk _ _ (N p hp).1, (N p hp).2⟩
  have notW : ∀ p : Addr × Obj, p.1 ∉ [s.heap.objs.size + 1, s.heap.objs.size] ↔ (@Ne Nat p.1 (s.heap.objs.size + 1) ∧ @Ne Nat p.1 s.heap.objs.size) := fun p => by simp [not_or]
  have lpW : ∀ p ∈ lp, @LT.lt Nat _ p.1 s.heap.objs.size := fun p hp => hfree p (List.mem_append_left _ hp)
  refine wpAny_pyIter_enum he ?_
  refine ⟨s.heap.objs.size + 1, (s.heap.objs.size + 1) :: [s.heap.objs.size, l], [s.heap.objs.size + 1, s.heap.objs.size], items.toArray.size, _, _, _, (fun i v0 v1 => ∃ t, v0 = .int i t ∧ items.toArray[i]? = some v1), m, lp ++ news,
    fun i m₁ n₁ => ∃ news₁, n₁ = lp ++ news₁ ∧ J i m₁ news₁, rfl, WalksT.enumerateD (drawsSeq (A := A.in1) hh s.heap.objs.size l hne items.toArray) _ (Nat.succ_ne_self _) ?_ (by simp), ?_, ?_, ?_, ?_,
    ⟨⟨_, by simpa using he⟩, hit, ol, ne, hk _ _ hl, hd⟩, F', N', ⟨news, rfl, h0⟩, ?_, ?_⟩
  · intro hm
    rcases List.mem_cons.mp hm with e | hm
    · exact Nat.succ_ne_self _ e
    · exact absurd (List.mem_singleton.mp hm) (Nat.ne_of_gt (Nat.lt_succ_of_lt hll))
  · rintro i vals ⟨t, x, hPx, rfl⟩
    exact ⟨_, _, rfl, t, rfl, hPx⟩
  · intro hm
    rcases List.mem_cons.mp hm with e | hm
    · exact Nat.ne_of_lt (Nat.lt_succ_of_lt hLs) e
    · rcases List.mem_cons.mp hm with e | hm
      · exact Nat.ne_of_lt hLs e
      · exact hlL (List.mem_singleton.mp hm).symm
  · intro b hb
    rcases List.mem_cons.mp hb with e | hb
    · rw [e]; exact hE0
    · rw [List.mem_singleton.mp hb]; exact hI0
  · intro p hp
    exact (notW p).mpr ⟨Nat.ne_of_lt (Nat.lt_succ_of_lt (hfree p hp)), Nat.ne_of_lt (hfree p hp)⟩
  · rintro i v0 v1 m₁ n₁ h₅ tk₅ _ ⟨t, rfl, hv⟩ ⟨news₁, rfl, hJ⟩ hw₁ ⟨⟨old, hE5⟩, hI5, _⟩ F₅ N₅
    obtain ⟨oI, hoI, _⟩ := hI5
    obtain ⟨oE, hoE⟩ : ∃ o, h₅.get? (s.heap.objs.size + 1) = some o := ⟨_, hE5⟩
    have hv' : items[i]? = some v1 := by simpa using hv
    have heL : s.heap.objs.size + 1 ≠ env.locals := Nat.ne_of_gt (Nat.lt_succ_of_lt hLs)
    refine wpAny_mono (turn i t v1 m₁ news₁ h₅ tk₅ oE oI hv' hJ F₅ (fun p hp => ?_) (fun p hp => (notW p).mp (hw₁ p hp))) (fun f s₂ p => ?_) fun _ _ e => e
    · rcases List.mem_cons.mp hp with e | hp
      · rw [e]; exact ⟨hoE, heL, hE0⟩
      · rcases List.mem_cons.mp hp with e | hp
        · rw [e]; exact ⟨hoI, Nat.ne_of_gt hLs, hI0⟩
        · exact N₅ p hp
    · have fin : (∃ h' tk m₂ news₂, s₂ = { s with heap := h', toks := tk } ∧ Fr h₀ env.locals h' m₂ ∧ News h₀ env.locals h' (((s.heap.objs.size + 1, oE) :: (s.heap.objs.size, oI) :: lp) ++ news₂) ∧ (∀ p ∈ news₂, @Ne Nat p.1 (s.heap.objs.size + 1) ∧ @Ne Nat p.1 s.heap.objs.size) ∧ J (i + 1) m₂ news₂) →
          ∃ h' tk m₂ n₂, s₂ = { s with heap := h', toks := tk } ∧ Fr h₀ env.locals h' m₂ ∧ News h₀ env.locals h' n₂ ∧ (∀ b ∈ (s.heap.objs.size + 1) :: [s.heap.objs.size, l], ∀ o, h₅.get? b = some o → h'.get? b = some o) ∧ (∀ p ∈ n₂, p.1 ∉ [s.heap.objs.size + 1, s.heap.objs.size]) ∧ ∃ news₁, n₂ = lp ++ news₁ ∧ J (i + 1) m₂ news₁ := by
        rintro ⟨h', tk, m₂, news₂, e, F₂, N₂, hI, hJ'⟩
        refine ⟨h', tk, m₂, lp ++ news₂, e, F₂, fun p hp => N₂ p (by simp only [List.cons_append, List.mem_cons]; exact .inr (.inr hp)), fun b hb o ho => ?_, fun p hp => (notW p).mpr ?_, news₂, rfl, hJ'⟩
        · rcases List.mem_cons.mp hb with e | hb
          · rw [e] at ho ⊢; rw [hoE] at ho; rw [← Option.some.inj ho]; exact (N₂ (s.heap.objs.size + 1, oE) (by simp)).1
          · rcases List.mem_cons.mp hb with e | hb
            · rw [e] at ho ⊢; rw [hoI] at ho; rw [← Option.some.inj ho]; exact (N₂ (s.heap.objs.size, oI) (by simp)).1
            · have e := List.mem_singleton.mp hb
              rw [e] at ho ⊢
              rcases hlp with q | ⟨_, q⟩
              · have h1 : h₅.get? l = some ol := (N₅ (l, ol) (by rw [q]; simp)).1
                rw [h1] at ho
                rw [← Option.some.inj ho]; exact (N₂ (l, ol) (by rw [q]; simp)).1
              · have h1 := F₅.keep _ _ q
                rw [h1] at ho
                rw [← Option.some.inj ho]; exact F₂.keep _ _ q
        · rcases List.mem_append.mp hp with hp | hp
          · exact ⟨Nat.ne_of_lt (Nat.lt_succ_of_lt (lpW p hp)), Nat.ne_of_lt (lpW p hp)⟩
          · exact hI p hp
      cases f with
      | ret v => exact p
      | brk => exact p
      | next => exact fin p
      | cont => exact fin p
  · rintro h' tk m' n' F₂ N₂ _ ⟨news', rfl, hJ⟩
    rw [List.size_toArray] at hJ
    exact done h' tk m' news' F₂ N₂ hJ
end
end Mine

-- part MG
namespace Mine
-- the walker keeps the rules that it found as long as their number stays: a step under no local rule makes it look anew
theorem anewMG {w : PySem.World} {A : PySem.Around} {E : PySem.Value → PySem.Shared → Prop} {Q : PySem.Flow → PySem.Shared → Prop} {s : PySem.Shared} {env : PySem.Env} (h : PySem.wpAny (PySem.model PySem.Challenge.rw_aa5017_01.row.prog w) A (PySem.execs [] env) Q E s) :
    PySem.wpAny (PySem.model PySem.Challenge.rw_aa5017_01.row.prog w) A (PySem.execs [] env) Q E s := by
  first | (walk1; fail) | exact h
end Mine
open PySem PySem.W PyProof.Rows PySem.Calls PySem.Builtin PySem.Builtin.ObjectAttr
set_option Elab.async false
set_option maxRecDepth 100000
namespace Mine
local macro_rules | `(tactic| walk_at "getMethod type:list") => `(tactic| (k_here; refine' method_type ?F ?X ?m (by decide +kernel) ?e ?h ?_; (case F => k_asm); (case X => k_asm); (case m => exact meta_list); (case e => k_dflt k_is); (case h => k_handed)))
local macro_rules | `(tactic| k_inst) => `(tactic| (refine' inst_il ?N ?h1 ?h2; (case N => k_asm); (case h1 => k_mem); (case h2 => k_mem)))
local macro_rules | `(tactic| walk_at "getAttr ref") => `(tactic| (k_here; k_dflt (refine' getOwn_il ?k1 ?k2 ?k3 ?k4 ?k5 ?k6 ?k7 ?_; (case k1 => k_asm); (case k2 => k_asm); (case k3 => k_inst); (case k4 => k_is); (case k5 => k_is); (case k6 => k_get); (case k7 => k_handed); k_whole)))
local macro_rules | `(tactic| walk_at "getMethod ref") => `(tactic| (k_here; k_dflt (refine' method_il ?k1 ?k2 ?k3 ?k4 ?k5 ?k6 ?_; (case k1 => k_asm); (case k2 => k_asm); (case k3 => k_inst); (case k4 => k_is); (case k5 => k_is); (case k6 => k_get); k_whole)))
local macro_rules | `(tactic| walk_at "call builtin:len") => `(tactic| (k_here; (with_reducible show wpAny _ _ (call (Value.builtin "len") [Value.ref _]) _ _ _); k_dflt (refine' lenK_il ?k1 ?k2 ?k3 ?k4 ?_; (case k1 => k_asm); (case k2 => k_asm); (case k3 => k_inst); (case k4 => omega); k_whole)))
local macro_rules | `(tactic| walk_at "call builtin:list.append") => `(tactic| (k_here; k_dflt (refine' append_il ?k1 ?k2 ?k3 ?k4 ?k5 ?k6 ?_; (case k1 => k_asm); (case k2 => k_asm); (case k3 => k_asm); (case k4 => k_inst); (case k5 => k_upd); (case k6 => omega); k_whole; intro h' F' N'; k_sweep)))
local macro_rules | `(tactic| walk_at "compareOp NotIn") => `(tactic| (k_here; k_dflt (refine' notIn_K ?k1 ?k2 ?k3 ?k4 ?k5 ?k6 ?k7 ?k8 ?_; (case k1 => k_asm); (case k2 => k_asm); (case k3 => k_asm); (case k4 => k_mem); (case k5 => assumption); (case k6 => assumption); (case k7 => assumption); (case k8 => ((try simp only [units_in1, units_deeper]); (try dsimp only); omega)); k_whole; intro tk')))
local macro_rules | `(tactic| walk_at "setItem ref int") => `(tactic| (k_here; k_dflt (refine' setItem_K ?k1 ?k2 ?k3 ?k4 ?k5 ?k6 ?k7 ?k8 ?k9 ?k10 ?_; (case k1 => k_asm); (case k2 => k_asm); (case k3 => k_updF); (case k4 => k_asm); (case k5 => assumption); (case k6 => assumption); (case k7 => ((try simp only [units_in1, units_deeper]); (try dsimp only); omega)); (case k8 => omega); (case k9 => first | assumption | exact notMem_of (by assumption)); (case k10 => omega); k_whole; intro h' od' tk' D' F' N'; k_sweep)))

local macro_rules | `(tactic| walk_at "setAttr ref ref") => `(tactic| (k_here; k_dflt (refine' set_il ?k1 ?k2 ?k3 ?k4 ?k5 ?k6 ?k7 ?k8 ?k9 ?_; (case k1 => k_asm); (case k2 => k_asm); (case k3 => k_asm); (case k4 => k_inst); (case k5 => k_is); (case k6 => k_get); (case k7 => k_put); (case k8 => k_upd); (case k9 => exact Nat.le_of_ble_eq_true rfl); k_whole; intro h' F' N'; k_sweep)))
local macro_rules | `(tactic| walk_at "setAttr ref bool") => `(tactic| (k_here; k_dflt (refine' set_il ?k1 ?k2 ?k3 ?k4 ?k5 ?k6 ?k7 ?k8 ?k9 ?_; (case k1 => k_asm); (case k2 => k_asm); (case k3 => k_asm); (case k4 => k_inst); (case k5 => k_is); (case k6 => k_get); (case k7 => k_put); (case k8 => k_upd); (case k9 => exact Nat.le_of_ble_eq_true rfl); k_whole; intro h' F' N'; k_sweep)))
local macro_rules | `(tactic| walk_at "eval Dict nil nil") => `(tactic| (k_here; k_dflt (refine' dict_nil ?k1 ?k2 ?k3 ?_; (case k1 => k_asm); (case k2 => k_asm); (case k3 => k_asm); k_whole; intro d' h' F' N' l1 lo' lb'; (try k_lt l1); k_sweep)))
local macro_rules | `(tactic| walk_at "call ref cons") => `(tactic| (k_here; (try dsimp only); (with_reducible show wpAny _ _ (call (Value.ref 58) _) _ _ _); k_dflt (refine' append_K ?kB ?kF ?kX ?kT ?khf ?khk ?kr ?ku ?kN ?kd ?k1 ?k2 ?k3 ?kP ?kI ?kD ?kx ?kl ?kz ?_; (case kB => k_asm); (case kF => k_asm); (case kX => k_asm); (case kT => k_asm); (case khf => exact rfl); (case khk => exact rfl); (case kr => ((try dsimp only [topA, Around.deeper]); omega)); (case ku => ((try dsimp only [topA, Around.deeper]); omega)); (case kN => k_asm); (case kd => (exact fun _ _ _ hr => nomatch hr)); (case k1 => assumption); (case k2 => assumption); (case k3 => assumption); (case kP => exact PIn.nil (by assumption) _); (case kI => assumption); (case kD => assumption); (case kx => assumption); (case kl => assumption); (case kz => assumption); k_whole; intro h' tk' items' n' od' F' N' I' D'; (simp only [List.cons_append, List.nil_append] at N'); k_sweep)))
local macro_rules | `(tactic| walk_at "subscriptTail") => `(tactic| (k_here; k_dflt (refine' tail_K ?k1 ?k2 ?k3 ?k4 ?k5 ?k6 ?k7 ?k8 ?_ ?k10 ?k11; (case k1 => k_asm); (case k2 => k_asm); (case k3 => k_asm); (case k4 => k_mem); (case k5 => assumption); (case k6 => assumption); (case k7 => ((try simp only [units_in1, units_deeper]); (try dsimp only); omega)); (case k8 => assumption); (case k10 => rfl); (case k11 => intro r; rfl); k_whole; intro i hi t tk')))

set_option maxHeartbeats 4000000 in
theorem add_K {w : World} {A₀ : Around} {dp un : Nat} {gd : Option (List Code)} {s : Shared} {base h₀ : Heap} {outer : List Env} {L : Addr} {m : Str → Option Value} {env : Env} {rest : Led}
    {mean : ExcName → Option Value} {mg mb : Str → Option Value} {P : Addr → Obj → Prop} {a ns d : Addr} {items : List Value} {n : Nat} {t1 t2 : Tok} {b : Bool} {od : Obj} {ds : List Dt} {v : Value} {x : Dt} {Q E : Value → Shared → Prop}
    (B : Below A₀ base outer h₀) (F : Fr h₀ L s.heap m) (X₀ : (hd.heap_39 w.params).In h₀) (T : TP mean mg mb h₀) (hf : env.frame = some L) (hke : env.scope.kind = .function)
    (hroom : dp + 19 < recursionLimit) (hu : un + 190 < cLine)
    (N : News h₀ L s.heap ([(a, ilObj ns items n), (ns, nsObj w t1 t2 b d), (d, od)] ++ rest)) (dis : ∀ q ∈ [(a, ilObj ns items n), (ns, nsObj w t1 t2 b d), (d, od)], ∀ r ∈ rest, q.1 ≠ r.1)
    (h1 : @Ne Nat a ns) (h2 : @Ne Nat a d) (h3 : @Ne Nat ns d) (hP : PIn P h₀ rest) (hI : Dens w P items ds) (hD : DictI pg w P od ds) (hx : DenP pg w P v x) (lo : (d == sysModules) = false) (hlen : ds.length ≤ 1000)
    (ret : ∀ h' tk' items' n' od' (i : Nat) t, Fr h₀ L h' m → News h₀ L h' ([(a, ilObj ns items' n'), (ns, nsObj w t1 t2 b d), (d, od')] ++ rest) → Dens w P items' (addD ds x) → DictI pg w P od' (addD ds x) → (addD ds x)[i]? = some x →
      Q (.int i t) { s with heap := h', toks := tk' }) :
    wpAny (model pg w) (topA dp un gd env outer) (call (.ref 65) [.ref a, v]) Q E s := by
  have fill : (PySem.Challenge.rw_aa5017_01, hd.heap_39) = (PySem.Challenge.rw_aa5017_01, hd.heap_39) := by k_fill; rfl
  refine wpAny_call ?_
  k_dflt (refine' enterL (binds := [(Str.ofString "self", .ref a), (Str.ofString "value", v)]) B F X₀ N dis T ?kA hf hke ?k6 ?k7 ?k8 ?k9 ?kB ?_ ?c2 ?c3 ?c4 ?c5; (case kA => exact rfl); (case k6 => k_is); (case k7 => k_is); (case k8 => (show dp < recursionLimit; omega)); (case k9 => exact BindsTo.of_eq rfl); (case kB => exact locs rfl); (case c2 => exact rfl); (case c3 => exact rfl); (case c4 => exact rfl); (case c5 => decide); k_whole)
  intro g' L' h' st hr F' N' B' X' T' hg lt
  (try dsimp only)
  k_fold
  have hPg : TupsIn P g' := fun b o p c => (hP b o p c).elim (st b o) (hr _)
  have hlen' := hI.length
  have hin : x ∈ addD ds x := by
    unfold addD
    split
    · exact mem_of (by assumption)
    · simp
  k_steps
  rename Fr g' _ _ _ => F3
  rename News g' _ _ _ => N3
  exact LeaveL.intro F3 N3 fun F₁ N₁ _ => ret _ _ _ _ _ _ _ F₁ N₁ (by assumption) (by assumption) (by assumption)
end Mine

-- part MI
namespace Mine
-- the walker keeps the rules that it found as long as their number stays: a step under no local rule makes it look anew
theorem anewMI {w : PySem.World} {A : PySem.Around} {E : PySem.Value → PySem.Shared → Prop} {Q : PySem.Flow → PySem.Shared → Prop} {s : PySem.Shared} {env : PySem.Env} (h : PySem.wpAny (PySem.model PySem.Challenge.rw_aa5017_01.row.prog w) A (PySem.execs [] env) Q E s) :
    PySem.wpAny (PySem.model PySem.Challenge.rw_aa5017_01.row.prog w) A (PySem.execs [] env) Q E s := by
  first | (walk1; fail) | exact h
end Mine
open PySem PySem.W PyProof.Rows PySem.Calls PySem.Builtin PySem.Builtin.ObjectAttr
set_option Elab.async false
set_option maxRecDepth 100000
namespace Mine
section
variable {prog : Program} {w : World} {A₀ A : Around} {s : Shared} {base h₀ : Heap} {outer : List Env} {L : Addr} {m : Str → Option Value} {env : Env} {fp rest : Led} {K : Frag}
  {R : Result → Shared → Prop} {name qual : Str} {params : Arguments} {body : List Stmt} {scope : Scope} {dV kV doc pm cdv ct oc : Value} {an od : Option Addr} {osl : Array (Option Value)} {f : Addr} {args : Args} {binds : List (Str × Value)}
  {p : Program} {loose : List Str} {mean : ExcName → Option Value} {mg mb : Str → Option Value}

/-- enterL, and what the callee leaves is told by the body's own continuations -/
theorem enterE (B : Below A₀ base outer h₀) (F : Fr h₀ L s.heap m) (X₀ : K.In h₀) (N : News h₀ L s.heap (fp ++ rest)) (dis : ∀ q ∈ fp, ∀ r ∈ rest, q.1 ≠ r.1) (T : Top p loose mean mg mb h₀)
    (hA : A.frames = some (env :: outer)) (hf : env.frame = some L) (hke : env.scope.kind = .function)
    (ho : K.lookup f = some ⟨oc, od, .func (fnOf name qual params body scope dV kV doc pm an cdv ct), osl⟩) (hcd : codeIn K cdv qual = true) (hroom : A.depth < recursionLimit)
    (hbind : BindsTo s (fnOf name qual params body scope dV kV doc pm an cdv ct) args binds) (hloc : ∀ y ∈ binds, scope.names.lookup y.1 = some .local)
    (h : ∀ g L' h₁, h₀.StaysIn g → (∀ q ∈ rest, g.get? q.1 = some q.2) → Fr g L' h₁ (fun y => binds.reverse.lookup y) → News g L' h₁ fp → Below A base (env :: outer) g → K.In g → Top p loose mean mg mb g →
      (∀ b o, s.heap.get? b = some o → b ∉ fp.map (·.1) → g.get? b = some o) → (∀ q ∈ fp, q.1 < L') → Fr h₀ L g m →
      (∀ L'' h' m' fp', Fr g L'' h' m' → News g L'' h' fp' → Fr h₀ L h' m ∧ News h₀ L h' (fp' ++ rest)) →
      wpAny (model prog w) (A.deeper (envOf qual scope L' f cdv)) (execs body (envOf qual scope L' f cdv))
        (fun fl s' => R (.ok (.ret (match fl with | .ret v => v | _ => .none))) s')
        (fun e s' => wpAny (model prog w) (A.deeper (envOf qual scope L' f cdv)) (leaving (envOf qual scope L' f cdv) e) (fun _ s'' => R (.error e) s'') (fun e' s'' => R (.error e') s'') s')
        { s with heap := h₁, toks := s.toks + binds.length })
    (hco : scope.isCoroutine = false) (hgen : scope.isGenerator = false) (hk : scope.kind = .function)
    (hcell : ∀ x ∈ scope.names, x.2 ≠ .cell) : codeAny (model prog w) A (.call (.ref f) args) R s := by
  have Nf : News h₀ L s.heap fp := fun q hq => N q (List.mem_append_left _ hq)
  have Nr : News h₀ L s.heap rest := fun q hq => N q (List.mem_append_right _ hq)
  obtain ⟨FG, BG, st, _⟩ := groundX (R := R) B F Nf hA hf hke
  have hg : ∀ b o, s.heap.get? b = some o → b ∉ fp.map (·.1) → (hideAll s.heap (fp.map (·.1))).get? b = some o := fun b o e n => hideAll_get _ e n
  have hr : ∀ q ∈ rest, (hideAll s.heap (fp.map (·.1))).get? q.1 = some q.2 := fun q hq => hg _ _ (Nr q hq).1 fun hm => by
    obtain ⟨r, h1, h2⟩ := List.mem_map.mp hm
    exact dis r h1 q hq h2
  refine codeAny_call_def (fd := fnOf name qual params body scope dV kV doc pm an cdv ct) (body := body) (binds := binds) hroom ((X₀.keeps F.keep) _ _ ho) rfl (T.nolimit.keeps F.keep) (codeRec_of (X₀.keeps F.keep) hcd) rfl hbind hcell hloc (fun h₁ hns hk₁ => ?_) hco hgen hk
  refine wpAny_mono (h _ s.heap.objs.size h₁ st hr ⟨hns, fun b o e => hk₁ b o (of_hideAll _ e), Nat.le_of_eq (hideAll_size _ _)⟩
    (fun q hq => ⟨hk₁ _ _ (Nf q hq).1, Nat.ne_of_lt (Heap.lt_size (Nf q hq).1), hideAll_none _ (List.mem_map_of_mem hq)⟩) BG (X₀.keeps st) (T.keeps st) hg (fun q hq => Heap.lt_size (Nf q hq).1) FG ?_) (fun fl s' hl => ?_) fun _ _ y => y
  · intro L'' h' m' fp' F' N'
    refine ⟨⟨FG.ns.keeps F'.keep, fun b o e => F'.keep b o (FG.keep b o e), FG.above⟩, fun q hq => ?_⟩
    rcases List.mem_append.mp hq with hq | hq
    · refine ⟨(N' q hq).1, fun e => ?_, ?_⟩
      · obtain ⟨oL, _, _, hL, _⟩ := FG.ns
        have := (N' q hq).2.2
        rw [e, hL] at this; cases this
      · cases z : h₀.get? q.1 with
        | none => rfl
        | some o => have := (N' q hq).2.2; rw [st _ _ z] at this; cases this
    · exact ⟨F'.keep _ _ (hr q hq), (Nr q hq).2⟩
  · exact hl
end
local macro_rules | `(tactic| walk_at "getMethod type:list") => `(tactic| (k_here; refine' method_type ?F ?X ?m (by decide +kernel) ?e ?h ?_; (case F => k_asm); (case X => k_asm); (case m => exact meta_list); (case e => k_dflt k_is); (case h => k_handed)))
local macro_rules | `(tactic| k_inst) => `(tactic| (refine' inst_il ?N ?h1 ?h2; (case N => k_asm); (case h1 => k_mem); (case h2 => k_mem)))
local macro_rules | `(tactic| walk_at "getAttr ref") => `(tactic| (k_here; k_dflt (refine' getOwn_il ?k1 ?k2 ?k3 ?k4 ?k5 ?k6 ?k7 ?_; (case k1 => k_asm); (case k2 => k_asm); (case k3 => k_inst); (case k4 => k_is); (case k5 => k_is); (case k6 => k_get); (case k7 => k_handed); k_whole)))
local macro_rules | `(tactic| walk_at "getMethod ref") => `(tactic| (k_here; k_dflt (refine' method_il ?k1 ?k2 ?k3 ?k4 ?k5 ?k6 ?_; (case k1 => k_asm); (case k2 => k_asm); (case k3 => k_inst); (case k4 => k_is); (case k5 => k_is); (case k6 => k_get); k_whole)))
local macro_rules | `(tactic| walk_at "call builtin:len") => `(tactic| (k_here; (with_reducible show wpAny _ _ (call (Value.builtin "len") [Value.ref _]) _ _ _); k_dflt (refine' lenK_il ?k1 ?k2 ?k3 ?k4 ?_; (case k1 => k_asm); (case k2 => k_asm); (case k3 => k_inst); (case k4 => omega); k_whole)))
local macro_rules | `(tactic| walk_at "call builtin:list.append") => `(tactic| (k_here; k_dflt (refine' append_il ?k1 ?k2 ?k3 ?k4 ?k5 ?k6 ?_; (case k1 => k_asm); (case k2 => k_asm); (case k3 => k_asm); (case k4 => k_inst); (case k5 => k_upd); (case k6 => omega); k_whole; intro h' F' N'; k_sweep)))
local macro_rules | `(tactic| walk_at "compareOp NotIn") => `(tactic| (k_here; k_dflt (refine' notIn_K ?k1 ?k2 ?k3 ?k4 ?k5 ?k6 ?k7 ?k8 ?_; (case k1 => k_asm); (case k2 => k_asm); (case k3 => k_asm); (case k4 => k_mem); (case k5 => assumption); (case k6 => assumption); (case k7 => assumption); (case k8 => ((try simp only [units_in1, units_deeper]); (try dsimp only); omega)); k_whole; intro tk')))
local macro_rules | `(tactic| walk_at "setItem ref int") => `(tactic| (k_here; k_dflt (refine' setItem_K ?k1 ?k2 ?k3 ?k4 ?k5 ?k6 ?k7 ?k8 ?k9 ?k10 ?_; (case k1 => k_asm); (case k2 => k_asm); (case k3 => k_updF); (case k4 => k_asm); (case k5 => assumption); (case k6 => assumption); (case k7 => ((try simp only [units_in1, units_deeper]); (try dsimp only); omega)); (case k8 => omega); (case k9 => first | assumption | exact notMem_of (by assumption)); (case k10 => omega); k_whole; intro h' od' tk' D' F' N'; k_sweep)))

local macro_rules | `(tactic| walk_at "setAttr ref ref") => `(tactic| (k_here; k_dflt (refine' set_il ?k1 ?k2 ?k3 ?k4 ?k5 ?k6 ?k7 ?k8 ?k9 ?_; (case k1 => k_asm); (case k2 => k_asm); (case k3 => k_asm); (case k4 => k_inst); (case k5 => k_is); (case k6 => k_get); (case k7 => k_put); (case k8 => k_upd); (case k9 => exact Nat.le_of_ble_eq_true rfl); k_whole; intro h' F' N'; k_sweep)))
local macro_rules | `(tactic| walk_at "setAttr ref bool") => `(tactic| (k_here; k_dflt (refine' set_il ?k1 ?k2 ?k3 ?k4 ?k5 ?k6 ?k7 ?k8 ?k9 ?_; (case k1 => k_asm); (case k2 => k_asm); (case k3 => k_asm); (case k4 => k_inst); (case k5 => k_is); (case k6 => k_get); (case k7 => k_put); (case k8 => k_upd); (case k9 => exact Nat.le_of_ble_eq_true rfl); k_whole; intro h' F' N'; k_sweep)))
local macro_rules | `(tactic| walk_at "eval Dict nil nil") => `(tactic| (k_here; k_dflt (refine' dict_nil ?k1 ?k2 ?k3 ?_; (case k1 => k_asm); (case k2 => k_asm); (case k3 => k_asm); k_whole; intro d' h' F' N' l1 lo' lb'; (try k_lt l1); k_sweep)))
local macro_rules | `(tactic| walk_at "subscriptTail") => `(tactic| (k_here; k_dflt (refine' tail_K ?k1 ?k2 ?k3 ?k4 ?k5 ?k6 ?k7 ?k8 ?_ ?k10 ?k11; (case k1 => k_asm); (case k2 => k_asm); (case k3 => k_asm); (case k4 => k_mem); (case k5 => assumption); (case k6 => assumption); (case k7 => ((try simp only [units_in1, units_deeper]); (try dsimp only); omega)); (case k8 => first | assumption | exact mem_of (by assumption)); (case k10 => rfl); (case k11 => intro r; rfl); k_whole; intro i hi t tk')))
theorem fillsI : True ∧ (PySem.Challenge.rw_aa5017_01, hd.heap_39) = (PySem.Challenge.rw_aa5017_01, hd.heap_39) := ⟨trivial, by k_fill; rfl⟩
theorem own_contains (P : Params) : findIn (hd.heap_39 P) (.ref 68) "__contains__" = some (some (.ref 44)) := by k_is
theorem fn_contains (P : Params) : isFn (hd.heap_39 P) (.ref 44) = true := by k_is
theorem inIl_K {w : World} {A₀ A : Around} {dp un : Nat} {gd : Option (List Code)} {s : Shared} {base h₀ : Heap} {outer : List Env} {L : Addr} {m : Str → Option Value} {env : Env} {rest : Led}
    {mean : ExcName → Option Value} {mg mb : Str → Option Value} {P P2 : Addr → Obj → Prop} {a ns d : Addr} {items : List Value} {n : Nat} {t1 t2 : Tok} {b : Bool} {od : Obj} {ds : List Dt} {v : Value} {x : Dt} {Q E : Value → Shared → Prop}
    (hA : A = topA dp un gd env outer)
    (B : Below A₀ base outer h₀) (F : Fr h₀ L s.heap m) (X₀ : (hd.heap_39 w.params).In h₀) (T : TP mean mg mb h₀) (hf : env.frame = some L) (hke : env.scope.kind = .function)
    (hroom : dp + 19 < recursionLimit) (hu : un + 190 < cLine)
    (N : News h₀ L s.heap ([(a, ilObj ns items n), (ns, nsObj w t1 t2 b d), (d, od)] ++ rest)) (dis : ∀ q ∈ [(a, ilObj ns items n), (ns, nsObj w t1 t2 b d), (d, od)], ∀ r ∈ rest, q.1 ≠ r.1)
    (h1 : @Ne Nat a ns) (h2 : @Ne Nat a d) (h3 : @Ne Nat ns d) (hP : PIn P2 h₀ rest) (sub : ∀ b o, P b o → o.cls = .type "tuple" → P2 b o) (hI : Dens w P items ds) (hD : DictI pg w P od ds) (hx : DenP pg w P2 v x) (lo : (d == sysModules) = false) (hlen : ds.length ≤ 1000)
    (ret : ∀ h' tk' d' od', Fr h₀ L h' m → News h₀ L h' ([(a, ilObj ns items n), (ns, nsObj w t1 t2 true d'), (d', od')] ++ rest) → DictI pg w P od' ds → (∀ q ∈ rest, @Ne Nat q.1 d') → (∀ b o, h₀.get? b = some o → @Ne Nat b d') → @Ne Nat a d' → @Ne Nat ns d' → (d' == sysModules) = false →
      Q (.bool (inD x ds)) { s with heap := h', toks := tk' }) :
    wpAny (model pg w) A (compareOp .In v (.ref a)) Q E s := by
  subst hA
  refine PySem.W.in_K F X₀ (inst_il N (.head _) (.tail _ (.head _))) (own_contains _) (fn_contains _) ?_
  refine contains_K B F X₀ T hf hke hroom hu N dis h1 h2 h3 hP sub hI hD hx lo hlen fun h' tk' d' od' F' N' D' k1 k2 k3 k4 k5 => ?_
  exact wpAny_truthy_bool (ret h' tk' d' od' F' N' D' k1 k2 k3 k4 k5)

local macro_rules | `(tactic| walk_at "compareOp In") => `(tactic| (k_here; (with_reducible show wpAny _ _ (compareOp _ _ (Value.ref _)) _ _ _); k_dflt (refine' inIl_K rfl ?kB ?kF ?kX ?kT ?khf ?khk ?kr ?ku ?kN ?kd ?k1 ?k2 ?k3 ?kP ?ks ?kI ?kD ?kx ?kl ?kz ?_; (case ks => exact fun _ _ h _ => h); (case kB => k_asm); (case kF => k_asm); (case kX => k_asm); (case kT => k_asm); (case khf => exact rfl); (case khk => exact rfl); (case kr => ((try dsimp only [topA, Around.deeper]); omega)); (case ku => ((try dsimp only [topA, Around.deeper]); omega)); (case kN => k_asm); (case kd => (exact fun _ _ _ hr => nomatch hr)); (case k1 => assumption); (case k2 => assumption); (case k3 => assumption); (case kP => exact PIn.nil (by assumption) _); (case kI => assumption); (case kD => assumption); (case kx => assumption); (case kl => assumption); (case kz => assumption); k_whole; intro h' tk' d' od' F' N' D' lq lg l1 l2 l3; (simp only [List.cons_append, List.nil_append] at N'); k_sweep)))

local macro_rules | `(tactic| walk_at "exec Raise some none") => `(tactic| (k_here; (with_reducible show wpAny _ _ (exec (Stmt.Raise (some (Expr.Name ("ValueError" : Str) _)) none _) _) _ _ _); (with_reducible rename Fr _ _ _ _ => kF); k_dflt (refine' Raise_classB rfl PyProof.Rows.excClass_ValueError ?hs ?hx ?_; (case hs => (rw [isSubtype_type]; kernel_rfl)); (case hx => (refine' name_B kF ?k1 ?k2 ?k3 ?k4 ?k5 ?_; (case k1 => k_asm); (case k2 => k_asm); (case k3 => k_is); (case k4 => exact PyProof.Rows.Boot.«ValueError»); (case k5 => decide); exact ⟨rfl, rfl⟩)); k_whole; intro h' e' x')))

local macro_rules | `(tactic| walk_at "leaving ref") => `(tactic| (k_here; k_dflt (refine' leave_newS ?k1 ?k0 ?k2 ?k3 ?_; (case k0 => assumption); (case k2 => assumption); (case k1 => assumption); (case k3 => k_asm); k_whole; intro h' S' R' U'; (try dsimp only at S' R' U' ⊢))))
set_option maxHeartbeats 4000000 in
theorem index_K {w : World} {A₀ : Around} {dp un : Nat} {gd : Option (List Code)} {s : Shared} {base h₀ : Heap} {outer : List Env} {L : Addr} {m : Str → Option Value} {env : Env} {rest : Led}
    {mean : ExcName → Option Value} {mg mb : Str → Option Value} {P : Addr → Obj → Prop} {a ns d : Addr} {items : List Value} {n : Nat} {t1 t2 : Tok} {b : Bool} {od : Obj} {ds : List Dt} {v : Value} {x : Dt} {Q E : Value → Shared → Prop}
    (B : Below A₀ base outer h₀) (F : Fr h₀ L s.heap m) (X₀ : (hd.heap_39 w.params).In h₀) (T : TP mean mg mb h₀) (hf : env.frame = some L) (hke : env.scope.kind = .function)
    (hroom : dp + 29 < recursionLimit) (hu : un + 290 < cLine)
    (N : News h₀ L s.heap ([(a, ilObj ns items n), (ns, nsObj w t1 t2 b d), (d, od)] ++ rest)) (dis : ∀ q ∈ [(a, ilObj ns items n), (ns, nsObj w t1 t2 b d), (d, od)], ∀ r ∈ (rest : Led), q.1 ≠ r.1)
    (h1 : @Ne Nat a ns) (h2 : @Ne Nat a d) (h3 : @Ne Nat ns d) (hP : PIn P h₀ rest) (hI : Dens w P items ds) (hD : DictI pg w P od ds) (hx : DenP pg w P v x) (lo : (d == sysModules) = false) (hlen : ds.length ≤ 1000) (hin : inD x ds = true)
    (ret : ∀ h' tk' d' od' (i : Nat) t, Fr h₀ L h' m → News h₀ L h' ([(a, ilObj ns items n), (ns, nsObj w t1 t2 true d'), (d', od')] ++ rest) → DictI pg w P od' ds → (∀ q ∈ rest, @Ne Nat q.1 d') → (∀ b o, h₀.get? b = some o → @Ne Nat b d') → @Ne Nat a d' → @Ne Nat ns d' → (d' == sysModules) = false → ds[i]? = some x →
      Q (.int i t) { s with heap := h', toks := tk' }) :
    wpAny (model pg w) (topA dp un gd env outer) (call (.ref 51) [.ref a, v]) Q E s := by
  have fill : (PySem.Challenge.rw_aa5017_01, hd.heap_39) = (PySem.Challenge.rw_aa5017_01, hd.heap_39) := by k_fill; rfl
  refine wpAny_call ?_
  k_dflt (refine' enterL (rest := rest) (binds := [(Str.ofString "self", .ref a), (Str.ofString "value", v)]) B F X₀ N dis T ?kA hf hke ?k6 ?k7 ?k8 ?k9 ?kB ?_ ?c2 ?c3 ?c4 ?c5; (case kA => exact rfl); (case k6 => k_is); (case k7 => k_is); (case k8 => (show dp < recursionLimit; omega)); (case k9 => exact BindsTo.of_eq rfl); (case kB => exact locs rfl); (case c2 => exact rfl); (case c3 => exact rfl); (case c4 => exact rfl); (case c5 => decide); k_whole)
  intro g' L' h' st hr F' N' B' X' T' hg lt
  (try dsimp only)
  k_fold
  have hPg : TupsIn P g' := fun b o p c => (hP b o p c).elim (st b o) (hr _)
  have hlen' := hI.length
  k_steps
  rename Fr g' _ _ _ => F3
  rename News g' _ _ _ => N3
  rename ∀ b o, Heap.get? g' b = some o → @Ne Nat b _ => lg'
  exact LeaveL.intro F3 N3 fun F₁ N₁ _ => ret _ _ _ _ _ _ F₁ N₁ (by assumption) (fun q hq => lg' _ _ (hr q hq)) (fun b o c => lg' b o (st b o c)) (by assumption) (by assumption) (by assumption) (by assumption)

set_option maxHeartbeats 4000000 in
theorem index_M {w : World} {A₀ : Around} {dp un : Nat} {gd : Option (List Code)} {s : Shared} {base h₀ : Heap} {outer : List Env} {L : Addr} {m : Str → Option Value} {env : Env}
    {mean : ExcName → Option Value} {mg mb : Str → Option Value} {P : Addr → Obj → Prop} {a ns d : Addr} {items : List Value} {n : Nat} {t1 t2 : Tok} {b : Bool} {od : Obj} {ds : List Dt} {v : Value} {x : Dt} {Q E : Value → Shared → Prop}
    (B : Below A₀ base outer h₀) (F : Fr h₀ L s.heap m) (X₀ : (hd.heap_39 w.params).In h₀) (T : TP mean mg mb h₀) (hf : env.frame = some L) (hke : env.scope.kind = .function)
    (hroom : dp + 29 < recursionLimit) (hu : un + 290 < cLine)
    (N : News h₀ L s.heap ([(a, ilObj ns items n), (ns, nsObj w t1 t2 b d), (d, od)] ++ [])) (dis : ∀ q ∈ [(a, ilObj ns items n), (ns, nsObj w t1 t2 b d), (d, od)], ∀ r ∈ ([] : Led), q.1 ≠ r.1)
    (h1 : @Ne Nat a ns) (h2 : @Ne Nat a d) (h3 : @Ne Nat ns d) (hP : PIn P h₀ []) (hI : Dens w P items ds) (hD : DictI pg w P od ds) (hx : DenP pg w P v x) (lo : (d == sysModules) = false) (hlen : ds.length ≤ 1000) (hin : inD x ds = false)
    (ret : ∀ h' tk' d' od' e G, RaisedSN base G (env :: outer) e (.type "ValueError") [(a, ilObj ns items n), (ns, nsObj w t1 t2 true d'), (d', od')] h' → Fr h₀ L G m → G.UpToSlots h' → DictI pg w P od' ds → (∀ b o, h₀.get? b = some o → @Ne Nat b d') → @Ne Nat a d' → @Ne Nat ns d' → (d' == sysModules) = false →
      E (.ref e) { s with heap := h', toks := tk' }) :
    wpAny (model pg w) (topA dp un gd env outer) (call (.ref 51) [.ref a, v]) Q E s := by
  have fill : (PySem.Challenge.rw_aa5017_01, hd.heap_39) = (PySem.Challenge.rw_aa5017_01, hd.heap_39) := by k_fill; rfl
  refine wpAny_call ?_
  k_dflt (refine' enterE (rest := []) (binds := [(Str.ofString "self", .ref a), (Str.ofString "value", v)]) B F X₀ N dis T ?kA hf hke ?k6 ?k7 ?k8 ?k9 ?kB ?_ ?c2 ?c3 ?c4 ?c5; (case kA => exact rfl); (case k6 => k_is); (case k7 => k_is); (case k8 => (show dp < recursionLimit; omega)); (case k9 => exact BindsTo.of_eq rfl); (case kB => exact locs rfl); (case c2 => exact rfl); (case c3 => exact rfl); (case c4 => exact rfl); (case c5 => decide); k_whole)
  intro g' L' h' st hr F' N' B' X' T' hg lt FG back
  (try dsimp only)
  k_fold
  have hPg : TupsIn P g' := fun b o p c => (hP b o p c).elim (st b o) (hr _)
  have hlen' := hI.length
  k_steps
  rename RaisedSN _ _ _ _ _ _ _ => R3
  rename Heap.UpToSlots _ _ => U3
  rename ∀ b o, Heap.get? g' b = some o → @Ne Nat b _ => lg'
  exact ret _ _ _ _ _ _ R3 FG U3 (by assumption) (fun b o c => lg' b o (st b o c)) (by assumption) (by assumption) (by assumption)
end Mine

-- part MT
namespace Mine
-- the walker keeps the rules that it found as long as their number stays: a step under no local rule makes it look anew
theorem anewMT {w : PySem.World} {A : PySem.Around} {E : PySem.Value → PySem.Shared → Prop} {Q : PySem.Flow → PySem.Shared → Prop} {s : PySem.Shared} {env : PySem.Env} (h : PySem.wpAny (PySem.model PySem.Challenge.rw_aa5017_01.row.prog w) A (PySem.execs [] env) Q E s) :
    PySem.wpAny (PySem.model PySem.Challenge.rw_aa5017_01.row.prog w) A (PySem.execs [] env) Q E s := by
  first | (walk1; fail) | exact h
end Mine
open PySem PySem.W PyProof.Rows PySem.Calls PySem.Builtin PySem.Builtin.ObjectAttr
set_option Elab.async false
set_option maxRecDepth 100000
namespace Mine
section
variable {prog : Program} {w : World} {A₀ A : Around} {s : Shared} {base h₀ : Heap} {outer : List Env} {L a : Addr} {m : Str → Option Value} {cn : Str} {cs : Scope} {ccd : Value} {fp rest : Led} {K : Frag}
  {R : Result → Shared → Prop} {name qual : Str} {params : Arguments} {body : List Stmt} {scope : Scope} {dV kV doc pm cdv ct oc : Value} {an od : Option Addr} {osl : Array (Option Value)} {f : Addr} {args : Args} {binds : List (Str × Value)}
  {p : Program} {loose : List Str} {mean : ExcName → Option Value} {mg mb : Str → Option Value}

/-- enterE for a callee that catches: its ground may have turned -/
theorem enterT (B : Below A₀ h₀ [] h₀) (F : Fr h₀ L s.heap m) (X₀ : K.In h₀) (N : News h₀ L s.heap (fp ++ rest)) (dis : ∀ q ∈ fp, ∀ r ∈ rest, q.1 ≠ r.1) (T : Top p loose mean mg mb h₀)
    (hA : A.frames = some [envOf cn cs L a ccd]) (hck : cs.kind = .function)
    (ho : K.lookup f = some ⟨oc, od, .func (fnOf name qual params body scope dV kV doc pm an cdv ct), osl⟩) (hcd : codeIn K cdv qual = true) (hroom : A.depth < recursionLimit)
    (hbind : BindsTo s (fnOf name qual params body scope dV kV doc pm an cdv ct) args binds) (hloc : ∀ y ∈ binds, scope.names.lookup y.1 = some .local)
    (h : ∀ g L' h₁, h₀.StaysIn g → (∀ q ∈ rest, g.get? q.1 = some q.2) → Fr g L' h₁ (fun y => binds.reverse.lookup y) → News g L' h₁ fp → Below A h₀ [envOf cn cs L a ccd] g → K.In g → Top p loose mean mg mb g → KtsDicts [L] g →
      (∀ q ∈ fp, q.1 < L') →
      (∀ g' L'' h' m' fp', KtsTurn [L] g g' → Fr g' L'' h' m' → News g' L'' h' fp' → Fr h₀ L h' m ∧ News h₀ L h' (fp' ++ rest)) →
      wpAny (model prog w) (A.deeper (envOf qual scope L' f cdv)) (execs body (envOf qual scope L' f cdv))
        (fun fl s' => R (.ok (.ret (match fl with | .ret v => v | _ => .none))) s')
        (fun e s' => wpAny (model prog w) (A.deeper (envOf qual scope L' f cdv)) (leaving (envOf qual scope L' f cdv) e) (fun _ s'' => R (.error e) s'') (fun e' s'' => R (.error e') s'') s')
        { s with heap := h₁, toks := s.toks + binds.length })
    (hco : scope.isCoroutine = false) (hgen : scope.isGenerator = false) (hk : scope.kind = .function)
    (hcell : ∀ x ∈ scope.names, x.2 ≠ .cell) : codeAny (model prog w) A (.call (.ref f) args) R s := by
  have Nf : News h₀ L s.heap fp := fun q hq => N q (List.mem_append_left _ hq)
  have Nr : News h₀ L s.heap rest := fun q hq => N q (List.mem_append_right _ hq)
  obtain ⟨oL, es, ep, hLg, hLd, hN, hNs, st, B₂⟩ := kts_enter B F Nf hA hck
  have hg : ∀ b o, s.heap.get? b = some o → b ∉ fp.map (·.1) → (hideAll s.heap (fp.map (·.1))).get? b = some o := fun b o e n => hideAll_get _ e n
  have hr : ∀ q ∈ rest, (hideAll s.heap (fp.map (·.1))).get? q.1 = some q.2 := fun q hq => hg _ _ (Nr q hq).1 fun hm => by
    obtain ⟨r, h1, h2⟩ := List.mem_map.mp hm
    exact dis r h1 q hq h2
  have hL0 : h₀.get? L = none := kts_self F
  refine codeAny_call_def (fd := fnOf name qual params body scope dV kV doc pm an cdv ct) (body := body) (binds := binds) hroom ((X₀.keeps F.keep) _ _ ho) rfl (T.nolimit.keeps F.keep) (codeRec_of (X₀.keeps F.keep) hcd) rfl hbind hcell hloc (fun h₁ hns hk₁ => ?_) hco hgen hk
  refine wpAny_mono (h _ s.heap.objs.size h₁ st hr ⟨hns, fun b o e => hk₁ b o (of_hideAll _ e), Nat.le_of_eq (hideAll_size _ _)⟩
    (fun q hq => ⟨hk₁ _ _ (Nf q hq).1, Nat.ne_of_lt (Heap.lt_size (Nf q hq).1), hideAll_none _ (List.mem_map_of_mem hq)⟩) B₂ (X₀.keeps st) (T.keeps st) (fun b hb => by rw [List.mem_singleton.mp hb]; exact ⟨oL, es, ep, hLg, hLd⟩) (fun q hq => Heap.lt_size (Nf q hq).1) ?_) (fun fl s' hl => ?_) fun _ _ y => y
  · intro g' L'' h' m' fp' TT F' N'
    have up : ∀ b o, h₀.get? b = some o → g'.get? b = some o := fun b o e => TT.other b o (st b o e) fun hm => by rw [List.mem_singleton.mp hm, hL0] at e; cases e
    obtain ⟨sl, hsl⟩ := TT.frame L oL hLg (List.mem_singleton.mpr rfl)
    refine ⟨⟨hNs sl _ (F'.keep _ _ hsl), fun b o e => F'.keep b o (up b o e), F.above⟩, fun q hq => ?_⟩
    rcases List.mem_append.mp hq with hq | hq
    · refine ⟨(N' q hq).1, fun e => ?_, ?_⟩
      · have := (N' q hq).2.2
        rw [e, hsl] at this; cases this
      · cases z : h₀.get? q.1 with
        | none => rfl
        | some o => have := (N' q hq).2.2; rw [up _ _ z] at this; cases this
    · exact ⟨F'.keep _ _ (TT.other _ _ (hr q hq) fun hm => (Nr q hq).2.1 (List.mem_singleton.mp hm)), (Nr q hq).2⟩
  · exact hl
end
local macro_rules | `(tactic| walk_at "getMethod type:list") => `(tactic| (k_here; refine' method_type ?F ?X ?m (by decide +kernel) ?e ?h ?_; (case F => k_asm); (case X => k_asm); (case m => exact meta_list); (case e => k_dflt k_is); (case h => k_handed)))
local macro_rules | `(tactic| k_inst) => `(tactic| (refine' inst_il ?N ?h1 ?h2; (case N => k_asm); (case h1 => k_mem); (case h2 => k_mem)))
local macro_rules | `(tactic| walk_at "getAttr ref") => `(tactic| (k_here; k_dflt (refine' getOwn_il ?k1 ?k2 ?k3 ?k4 ?k5 ?k6 ?k7 ?_; (case k1 => k_asm); (case k2 => k_asm); (case k3 => k_inst); (case k4 => k_is); (case k5 => k_is); (case k6 => k_get); (case k7 => k_handed); k_whole)))
local macro_rules | `(tactic| walk_at "getMethod ref") => `(tactic| (k_here; k_dflt (refine' method_il ?k1 ?k2 ?k3 ?k4 ?k5 ?k6 ?_; (case k1 => k_asm); (case k2 => k_asm); (case k3 => k_inst); (case k4 => k_is); (case k5 => k_is); (case k6 => k_get); k_whole)))
local macro_rules | `(tactic| walk_at "call builtin:len") => `(tactic| (k_here; (with_reducible show wpAny _ _ (call (Value.builtin "len") [Value.ref _]) _ _ _); k_dflt (refine' lenK_il ?k1 ?k2 ?k3 ?k4 ?_; (case k1 => k_asm); (case k2 => k_asm); (case k3 => k_inst); (case k4 => omega); k_whole)))
local macro_rules | `(tactic| walk_at "call builtin:list.append") => `(tactic| (k_here; k_dflt (refine' append_il ?k1 ?k2 ?k3 ?k4 ?k5 ?k6 ?_; (case k1 => k_asm); (case k2 => k_asm); (case k3 => k_asm); (case k4 => k_inst); (case k5 => k_upd); (case k6 => omega); k_whole; intro h' F' N'; k_sweep)))
local macro_rules | `(tactic| walk_at "compareOp NotIn") => `(tactic| (k_here; k_dflt (refine' notIn_K ?k1 ?k2 ?k3 ?k4 ?k5 ?k6 ?k7 ?k8 ?_; (case k1 => k_asm); (case k2 => k_asm); (case k3 => k_asm); (case k4 => k_mem); (case k5 => assumption); (case k6 => assumption); (case k7 => assumption); (case k8 => ((try simp only [units_in1, units_deeper]); (try dsimp only); omega)); k_whole; intro tk')))
local macro_rules | `(tactic| walk_at "setItem ref int") => `(tactic| (k_here; k_dflt (refine' setItem_K ?k1 ?k2 ?k3 ?k4 ?k5 ?k6 ?k7 ?k8 ?k9 ?k10 ?_; (case k1 => k_asm); (case k2 => k_asm); (case k3 => k_updF); (case k4 => k_asm); (case k5 => assumption); (case k6 => assumption); (case k7 => ((try simp only [units_in1, units_deeper]); (try dsimp only); omega)); (case k8 => omega); (case k9 => first | assumption | exact notMem_of (by assumption)); (case k10 => omega); k_whole; intro h' od' tk' D' F' N'; k_sweep)))

local macro_rules | `(tactic| walk_at "setAttr ref ref") => `(tactic| (k_here; k_dflt (refine' set_il ?k1 ?k2 ?k3 ?k4 ?k5 ?k6 ?k7 ?k8 ?k9 ?_; (case k1 => k_asm); (case k2 => k_asm); (case k3 => k_asm); (case k4 => k_inst); (case k5 => k_is); (case k6 => k_get); (case k7 => k_put); (case k8 => k_upd); (case k9 => exact Nat.le_of_ble_eq_true rfl); k_whole; intro h' F' N'; k_sweep)))
local macro_rules | `(tactic| walk_at "setAttr ref bool") => `(tactic| (k_here; k_dflt (refine' set_il ?k1 ?k2 ?k3 ?k4 ?k5 ?k6 ?k7 ?k8 ?k9 ?_; (case k1 => k_asm); (case k2 => k_asm); (case k3 => k_asm); (case k4 => k_inst); (case k5 => k_is); (case k6 => k_get); (case k7 => k_put); (case k8 => k_upd); (case k9 => exact Nat.le_of_ble_eq_true rfl); k_whole; intro h' F' N'; k_sweep)))
local macro_rules | `(tactic| walk_at "eval Dict nil nil") => `(tactic| (k_here; k_dflt (refine' dict_nil ?k1 ?k2 ?k3 ?_; (case k1 => k_asm); (case k2 => k_asm); (case k3 => k_asm); k_whole; intro d' h' F' N' l1 lo' lb'; (try k_lt l1); k_sweep)))
theorem fillsT : True ∧ (PySem.Challenge.rw_aa5017_01, hd.heap_39) = (PySem.Challenge.rw_aa5017_01, hd.heap_39) := ⟨trivial, by k_fill; rfl⟩
local macro_rules | `(tactic| walk_at "call ref cons") => `(tactic| (k_here; (try dsimp only); (with_reducible show wpAny _ _ (call (Value.ref 51) _) _ _ _); k_dflt (refine' index_K ?kB ?kF ?kX ?kT ?khf ?khk ?kr ?ku ?kN ?kd ?k1 ?k2 ?k3 ?kP ?kI ?kD ?kx ?kl ?kz ?ki ?_; (case ki => assumption); (case kB => k_asm); (case kF => k_asm); (case kX => k_asm); (case kT => k_asm); (case khf => exact rfl); (case khk => exact rfl); (case kr => ((try dsimp only [topA, Around.deeper]); omega)); (case ku => ((try dsimp only [topA, Around.deeper]); omega)); (case kN => k_asm); (case kd => (exact fun _ _ _ hr => nomatch hr)); (case k1 => assumption); (case k2 => assumption); (case k3 => assumption); (case kP => exact PIn.nil (by assumption) _); (case kI => assumption); (case kD => assumption); (case kx => assumption); (case kl => assumption); (case kz => assumption); k_whole; intro h' tk' d' od' i t F' N' D' lq lg l1 l2 l3 hi; (simp only [List.cons_append, List.nil_append] at N'); k_sweep)))
local macro_rules | `(tactic| walk_at "call ref cons") => `(tactic| (k_here; (try dsimp only); (with_reducible show wpAny _ _ (call (Value.ref 51) _) _ _ _); k_dflt (refine' index_M ?kB ?kF ?kX ?kT ?khf ?khk ?kr ?ku ?kN ?kd ?k1 ?k2 ?k3 ?kP ?kI ?kD ?kx ?kl ?kz ?ki ?_; (case ki => assumption); (case kB => k_asm); (case kF => k_asm); (case kX => k_asm); (case kT => k_asm); (case khf => exact rfl); (case khk => exact rfl); (case kr => ((try dsimp only [topA, Around.deeper]); omega)); (case ku => ((try dsimp only [topA, Around.deeper]); omega)); (case kN => k_asm); (case kd => (exact fun _ _ _ hr => nomatch hr)); (case k1 => assumption); (case k2 => assumption); (case k3 => assumption); (case kP => exact PIn.nil (by assumption) _); (case kI => assumption); (case kD => assumption); (case kx => assumption); (case kl => assumption); (case kz => assumption); k_whole; intro h' tk' d' od' e G R' FG' U' D' lg l1 l2 l3)))
set_option maxHeartbeats 4000000 in
theorem place_K {w : World} {A₀ : Around} {dp un : Nat} {gd : Option (List Code)} {s : Shared} {h₀ : Heap} {L ea : Addr} {m : Str → Option Value} {cn : Str} {cs : Scope} {ccd : Value} {rest : Led}
    {mean : ExcName → Option Value} {mg mb : Str → Option Value} {P : Addr → Obj → Prop} {a ns d : Addr} {items : List Value} {n : Nat} {t1 t2 : Tok} {b : Bool} {od : Obj} {ds : List Dt} {v : Value} {x : Dt} {Q E : Value → Shared → Prop}
    (B : Below A₀ h₀ [] h₀) (F : Fr h₀ L s.heap m) (X₀ : (hd.heap_39 w.params).In h₀) (T : TP mean mg mb h₀) (hck : cs.kind = .function)
    (hroom : dp + 39 < recursionLimit) (hu : un + 390 < cLine)
    (N : News h₀ L s.heap ([(a, ilObj ns items n), (ns, nsObj w t1 t2 b d), (d, od)] ++ rest)) (dis : ∀ q ∈ [(a, ilObj ns items n), (ns, nsObj w t1 t2 b d), (d, od)], ∀ r ∈ rest, q.1 ≠ r.1)
    (h1 : @Ne Nat a ns) (h2 : @Ne Nat a d) (h3 : @Ne Nat ns d) (hP : PIn P h₀ rest) (hI : Dens w P items ds) (hD : DictI pg w P od ds) (hx : DenP pg w P v x) (lo : (d == sysModules) = false) (hlen : ds.length ≤ 1000)
    (ret : ∀ h' tk' d' od' (r : Int) t, Fr h₀ L h' m → News h₀ L h' ([(a, ilObj ns items n), (ns, nsObj w t1 t2 true d'), (d', od')] ++ rest) → DictI pg w P od' ds → (∀ q ∈ rest, @Ne Nat q.1 d') → @Ne Nat a d' → @Ne Nat ns d' → (d' == sysModules) = false →
      ((∃ i : Nat, r = i ∧ ds[i]? = some x) ∨ (r = -1 ∧ inD x ds = false)) → Q (.int r t) { s with heap := h', toks := tk' }) :
    wpAny (model pg w) (topA dp un gd (envOf cn cs L ea ccd) []) (call (.ref 91) [.ref a, v]) Q E s := by
  have fill : (PySem.Challenge.rw_aa5017_01, hd.heap_39) = (PySem.Challenge.rw_aa5017_01, hd.heap_39) := by k_fill; rfl
  refine wpAny_call ?_
  k_dflt (refine' enterT (binds := [(Str.ofString "told", .ref a), (Str.ofString "value", v)]) B F X₀ N dis T ?kA hck ?k6 ?k7 ?k8 ?k9 ?kB ?_ ?c2 ?c3 ?c4 ?c5; (case kA => exact rfl); (case k6 => k_is); (case k7 => k_is); (case k8 => (show dp < recursionLimit; omega)); (case k9 => exact BindsTo.of_eq rfl); (case kB => exact locs rfl); (case c2 => exact rfl); (case c3 => exact rfl); (case c4 => exact rfl); (case c5 => decide); k_whole)
  intro g' L' h' st hr F' N' B' X' T' hDi lt back
  (try dsimp only)
  k_fold
  have hPg : TupsIn P g' := fun b o p c => (hP b o p c).elim (st b o) (hr _)
  have hlen' := hI.length
  cases hin : inD x ds with
  | true =>
    k_steps
    rename Fr g' _ _ _ => F3
    rename News g' _ _ _ => N3
    rename ∀ b o, Heap.get? g' b = some o → @Ne Nat b _ => lg'
    obtain ⟨F₁, N₁⟩ := back g' _ _ _ _ KtsTurn.refl F3 N3
    exact ret _ _ _ _ _ _ F₁ N₁ (by assumption) (fun q hq => lg' _ _ (hr q hq)) (by assumption) (by assumption) (by assumption) (.inl ⟨_, rfl, by assumption⟩)
  | false =>
    k_steps
    rename KtsTurn _ _ _ => T3
    rename Fr _ L' _ _ => F3
    rename News _ L' _ _ => N3
    rename ∀ b o, Heap.get? g' b = some o → @Ne Nat b _ => lg'
    obtain ⟨F₁, N₁⟩ := back _ _ _ _ _ T3 F3 N3
    exact ret _ _ _ _ _ _ F₁ N₁ (by assumption) (fun q hq => lg' _ _ (hr q hq)) (by assumption) (by assumption) (by assumption) (.inr ⟨rfl, hin⟩)
end Mine

-- part MN
namespace Mine
-- the walker keeps the rules that it found as long as their number stays: a step under no local rule makes it look anew
theorem anewMN {w : PySem.World} {A : PySem.Around} {E : PySem.Value → PySem.Shared → Prop} {Q : PySem.Flow → PySem.Shared → Prop} {s : PySem.Shared} {env : PySem.Env} (h : PySem.wpAny (PySem.model PySem.Challenge.rw_aa5017_01.row.prog w) A (PySem.execs [] env) Q E s) :
    PySem.wpAny (PySem.model PySem.Challenge.rw_aa5017_01.row.prog w) A (PySem.execs [] env) Q E s := by
  first | (walk1; fail) | exact h
end Mine
open PySem PySem.W PyProof.Rows PySem.Calls PySem.Builtin PySem.Builtin.ObjectAttr
set_option Elab.async false
set_option maxRecDepth 100000
namespace Mine
local macro_rules | `(tactic| walk_at "getMethod type:list") => `(tactic| (k_here; refine' method_type ?F ?X ?m (by decide +kernel) ?e ?h ?_; (case F => k_asm); (case X => k_asm); (case m => exact meta_list); (case e => k_dflt k_is); (case h => k_handed)))
local macro_rules | `(tactic| k_inst) => `(tactic| (refine' inst_il ?N ?h1 ?h2; (case N => k_asm); (case h1 => k_mem); (case h2 => k_mem)))
local macro_rules | `(tactic| walk_at "getAttr ref") => `(tactic| (k_here; k_dflt (refine' getOwn_il ?k1 ?k2 ?k3 ?k4 ?k5 ?k6 ?k7 ?_; (case k1 => k_asm); (case k2 => k_asm); (case k3 => k_inst); (case k4 => k_is); (case k5 => k_is); (case k6 => k_get); (case k7 => k_handed); k_whole)))
local macro_rules | `(tactic| walk_at "getMethod ref") => `(tactic| (k_here; k_dflt (refine' method_il ?k1 ?k2 ?k3 ?k4 ?k5 ?k6 ?_; (case k1 => k_asm); (case k2 => k_asm); (case k3 => k_inst); (case k4 => k_is); (case k5 => k_is); (case k6 => k_get); k_whole)))
local macro_rules | `(tactic| walk_at "call builtin:len") => `(tactic| (k_here; (with_reducible show wpAny _ _ (call (Value.builtin "len") [Value.ref _]) _ _ _); k_dflt (refine' lenK_il ?k1 ?k2 ?k3 ?k4 ?_; (case k1 => k_asm); (case k2 => k_asm); (case k3 => k_inst); (case k4 => omega); k_whole)))
local macro_rules | `(tactic| walk_at "call builtin:list.append") => `(tactic| (k_here; k_dflt (refine' append_il ?k1 ?k2 ?k3 ?k4 ?k5 ?k6 ?_; (case k1 => k_asm); (case k2 => k_asm); (case k3 => k_asm); (case k4 => k_inst); (case k5 => k_upd); (case k6 => omega); k_whole; intro h' F' N'; k_sweep)))
local macro_rules | `(tactic| walk_at "compareOp NotIn") => `(tactic| (k_here; k_dflt (refine' notIn_K ?k1 ?k2 ?k3 ?k4 ?k5 ?k6 ?k7 ?k8 ?_; (case k1 => k_asm); (case k2 => k_asm); (case k3 => k_asm); (case k4 => k_mem); (case k5 => assumption); (case k6 => assumption); (case k7 => assumption); (case k8 => ((try simp only [units_in1, units_deeper]); (try dsimp only); omega)); k_whole; intro tk')))
local macro_rules | `(tactic| walk_at "setItem ref int") => `(tactic| (k_here; k_dflt (refine' setItem_K ?k1 ?k2 ?k3 ?k4 ?k5 ?k6 ?k7 ?k8 ?k9 ?k10 ?_; (case k1 => k_asm); (case k2 => k_asm); (case k3 => k_updF); (case k4 => k_asm); (case k5 => assumption); (case k6 => assumption); (case k7 => ((try simp only [units_in1, units_deeper]); (try dsimp only); omega)); (case k8 => omega); (case k9 => first | assumption | exact notMem_of (by assumption)); (case k10 => omega); k_whole; intro h' od' tk' D' F' N'; k_sweep)))

local macro_rules | `(tactic| walk_at "setAttr ref ref") => `(tactic| (k_here; k_dflt (refine' set_il ?k1 ?k2 ?k3 ?k4 ?k5 ?k6 ?k7 ?k8 ?k9 ?_; (case k1 => k_asm); (case k2 => k_asm); (case k3 => k_asm); (case k4 => k_inst); (case k5 => k_is); (case k6 => k_get); (case k7 => k_put); (case k8 => k_upd); (case k9 => exact Nat.le_of_ble_eq_true rfl); k_whole; intro h' F' N'; k_sweep)))
local macro_rules | `(tactic| walk_at "setAttr ref bool") => `(tactic| (k_here; k_dflt (refine' set_il ?k1 ?k2 ?k3 ?k4 ?k5 ?k6 ?k7 ?k8 ?k9 ?_; (case k1 => k_asm); (case k2 => k_asm); (case k3 => k_asm); (case k4 => k_inst); (case k5 => k_is); (case k6 => k_get); (case k7 => k_put); (case k8 => k_upd); (case k9 => exact Nat.le_of_ble_eq_true rfl); k_whole; intro h' F' N'; k_sweep)))
local macro_rules | `(tactic| walk_at "eval Dict nil nil") => `(tactic| (k_here; k_dflt (refine' dict_nil ?k1 ?k2 ?k3 ?_; (case k1 => k_asm); (case k2 => k_asm); (case k3 => k_asm); k_whole; intro d' h' F' N' l1 lo' lb'; (try k_lt l1); k_sweep)))
theorem rot3 {h₀ h : Heap} {L : Addr} {p q r : Addr × Obj} {rest : Led} (N : News h₀ L h (p :: q :: r :: rest)) : News h₀ L h (q :: r :: p :: rest) :=
  fun y hy => N y (by simp only [List.mem_cons] at hy ⊢; rcases hy with h | h | h | h <;> simp [h])
theorem map_pair {m : Str → Option Value} {x z : Str} {v u va ua : Option Value} :
    (fun y => if y = x then v else if y = z then va else if y = x then u else if y = z then ua else m y) = fun y => if y = x then v else if y = z then va else m y := by
  funext y
  by_cases h : y = x
  · simp [h]
  · by_cases h2 : y = z
    · simp [h2]
    · simp [h, h2]
theorem notIn_take {ds : List Dt} {x : Dt} {i : Nat} (hnd : ds.Nodup) (hxi : ds[i]? = some x) : inD x (ds.take i) = false := by
  cases q : inD x (ds.take i) with
  | false => rfl
  | true =>
    have hlt : i < ds.length := (List.getElem?_eq_some_iff.mp hxi).1
    obtain ⟨j, hj⟩ := List.mem_iff_getElem?.mp (inD_iff.mp q)
    have hji : j < i := by have := (List.getElem?_eq_some_iff.mp hj).1; rw [List.length_take] at this; omega
    rw [List.getElem?_take_of_lt hji] at hj
    have := (List.getElem?_inj (by omega) hnd).mp (hj.trans hxi.symm)
    omega
theorem under_top {dp un : Nat} {gd : Option (List Code)} {env : Env} {outer : List Env} {args : Args} (e : args.pos.head? = some (.ref 68)) (k : args.kw = []) :
    (topA dp un gd env outer).under (.builtin "type.__call__" args) = topA (dp + 1) (un + 1) gd env outer := by
  obtain ⟨pos, kw⟩ := args
  cases pos with
  | nil => cases e
  | cons a r => cases k; cases e; rfl

local macro_rules | `(tactic| walk_at "exec For Tuple Call") => `(tactic| (k_here; k_dflt (refine' For_pairU ?kF ?khh ?ki ?kc ?kp ?_ ?ks; (case kF => k_asm); (case khh => exact rfl); (case ki => exact rfl); (case kc => exact rfl); (case kp => exact rfl); (case ks => intro x; rfl); k_whole)))

set_option maxHeartbeats 4000000 in
theorem init0_K {w : World} {A₀ : Around} {dp un : Nat} {gd : Option (List Code)} {s : Shared} {base h₀ : Heap} {outer : List Env} {L : Addr} {m : Str → Option Value} {env : Env} {rest : Led}
    {mean : ExcName → Option Value} {mg mb : Str → Option Value} {x dx : Addr} {R : Result → Shared → Prop}
    (B : Below A₀ base outer h₀) (F : Fr h₀ L s.heap m) (X₀ : (hd.heap_39 w.params).In h₀) (T : TP mean mg mb h₀) (hf : env.frame = some L) (hke : env.scope.kind = .function)
    (hroom : dp + 9 < recursionLimit) (hu : un + 90 < cLine)
    (N : News h₀ L s.heap ([(x, ilObj dx [] 0), (dx, dictOf [] 0)] ++ rest)) (dis : ∀ q ∈ [(x, ilObj dx [] 0), (dx, dictOf [] 0)], ∀ r ∈ rest, q.1 ≠ r.1)
    (h1 : @Ne Nat x dx)
    (ret : ∀ h' tk' d t1 t2, Fr h₀ L h' m → News h₀ L h' ([(x, ilObj dx [] 0), (dx, nsObj w t1 t2 true d), (d, dictOf [] 0)] ++ rest) → (∀ q ∈ rest, @Ne Nat q.1 d) → @Ne Nat x d → @Ne Nat dx d → (d == sysModules) = false →
      R (.ok (.ret .none)) { s with heap := h', toks := tk' }) :
    codeAny (model pg w) (topA dp un gd env outer) (.call (.ref 30) ⟨[.ref x], []⟩) R s := by
  have fill : (PySem.Challenge.rw_aa5017_01, hd.heap_39) = (PySem.Challenge.rw_aa5017_01, hd.heap_39) := by k_fill; rfl
  k_dflt (refine' enterL (binds := [(Str.ofString "self", .ref x), (Str.ofString "iterable", .none)]) B F X₀ N dis T ?kA hf hke ?k6 ?k7 ?k8 ?k9 ?kB ?_ ?c2 ?c3 ?c4 ?c5; (case kA => exact rfl); (case k6 => k_is); (case k7 => k_is); (case k8 => (show dp < recursionLimit; omega)); (case k9 => first | exact binds_K (by k_in) rfl (by k_is) rfl rfl rfl | exact BindsTo.of_eq rfl); (case kB => exact locs rfl); (case c2 => exact rfl); (case c3 => exact rfl); (case c4 => exact rfl); (case c5 => decide); k_whole)
  intro g' L' h' st hr F' N' B' X' T' hg lt
  (try dsimp only)
  k_fold
  k_steps
  rename Fr g' _ _ _ => F3
  rename News g' _ _ _ => N3
  rename ∀ b o, Heap.get? g' b = some o → @LT.lt Nat _ b _ => lg'
  rename _ < _ ∧ _ < _ => l1
  exact LeaveL.intro F3 (rot3 N3) fun F₁ N₁ _ => ret _ _ _ _ _ F₁ N₁ (fun q hq => Nat.ne_of_lt (lg' _ _ (hr q hq))) (Nat.ne_of_lt l1.1) (Nat.ne_of_lt l1.2) (by assumption)

set_option maxHeartbeats 4000000 in
theorem init1_K {w : World} {A₀ : Around} {dp un : Nat} {gd : Option (List Code)} {s : Shared} {base h₀ : Heap} {outer : List Env} {L : Addr} {m : Str → Option Value} {env : Env} {rest : Led}
    {mean : ExcName → Option Value} {mg mb : Str → Option Value} {P : Addr → Obj → Prop} {x dx l : Addr} {ol : Obj} {items : List Value} {ne : Nat} {ds : List Dt} {extra : Led} {R : Result → Shared → Prop}
    (B : Below A₀ base outer h₀) (F : Fr h₀ L s.heap m) (X₀ : (hd.heap_39 w.params).In h₀) (T : TP mean mg mb h₀) (hf : env.frame = some L) (hke : env.scope.kind = .function)
    (hroom : dp + 9 < recursionLimit) (hu : un + 90 < cLine)
    (N : News h₀ L s.heap ([(x, ilObj dx [] 0), (dx, dictOf [] 0)] ++ rest)) (dis : ∀ q ∈ [(x, ilObj dx [] 0), (dx, dictOf [] 0)], ∀ r ∈ rest, q.1 ≠ r.1)
    (h1 : @Ne Nat x dx) (hP : PIn P h₀ rest) (hl : (l, ol) ∈ rest) (hd' : ol.data = .seq items.toArray ne) (hI : Dens w P items ds) (hnd : ds.Nodup) (hlen : ds.length ≤ 1000) (hex : ∀ q ∈ extra, q ∈ rest)
    (hen : ∀ (A : Around) (s' : Shared) (Q' E' : Value → Shared → Prop), (hd.heap_39 w.params).In s'.heap → s'.heap.get? l = some ol → (∀ q ∈ extra, s'.heap.get? q.1 = some q.2) →
      (∀ h', IsEnum h' (s'.heap.objs.size + 1) s'.heap.objs.size 0 .none → h'.IsListIter s'.heap.objs.size l 0 → h'.objs.size = s'.heap.objs.size + 2 →
      (∀ b o, s'.heap.get? b = some o → h'.get? b = some o) → Q' (.ref (s'.heap.objs.size + 1)) { s' with heap := h' }) → wpAny (model pg w) A (call (.type "enumerate") [.ref l]) Q' E' s')
    (ret : ∀ h' tk' d n' od t1 t2, Fr h₀ L h' m → News h₀ L h' ([(x, ilObj dx items n'), (dx, nsObj w t1 t2 false d), (d, od)] ++ rest) → DictI pg w P od ds → (∀ q ∈ rest, @Ne Nat q.1 d) → @Ne Nat x d → @Ne Nat dx d → (d == sysModules) = false →
      R (.ok (.ret .none)) { s with heap := h', toks := tk' }) :
    codeAny (model pg w) (topA dp un gd env outer) (.call (.ref 30) ⟨[.ref x, .ref l], []⟩) R s := by
  have fill : (PySem.Challenge.rw_aa5017_01, hd.heap_39) = (PySem.Challenge.rw_aa5017_01, hd.heap_39) := by k_fill; rfl
  k_dflt (refine' enterL (binds := [(Str.ofString "self", .ref x), (Str.ofString "iterable", .ref l)]) B F X₀ N dis T ?kA hf hke ?k6 ?k7 ?k8 ?k9 ?kB ?_ ?c2 ?c3 ?c4 ?c5; (case kA => exact rfl); (case k6 => k_is); (case k7 => k_is); (case k8 => (show dp < recursionLimit; omega)); (case k9 => first | exact binds_K (by k_in) rfl (by k_is) rfl rfl rfl | exact BindsTo.of_eq rfl); (case kB => exact locs rfl); (case c2 => exact rfl); (case c3 => exact rfl); (case c4 => exact rfl); (case c5 => decide); k_whole)
  intro g' L' h' st hr F' N' B' X' T' hg lt
  (try dsimp only)
  k_fold
  have hPg : TupsIn P g' := fun b o p c => (hP b o p c).elim (st b o) (hr _)
  have hlen' := hI.length
  k_steps
  rename Fr g' _ _ _ => Fl
  rename News g' _ _ _ => Nl
  rename (_ == sysModules) = false => lo'
  rename _ < _ ∧ _ < _ => l1
  rename ∀ b o, Heap.get? g' b = some o → @LT.lt Nat _ b _ => lb'
  obtain ⟨d', t1, t2, Nl, lo', l1, lb'⟩ : ∃ d' t1 t2, News g' L' _ [(d', dictOf [] 0), (x, ilObj dx [] 0), (dx, nsObj w t1 t2 false d')] ∧ (d' == sysModules) = false ∧ (@LT.lt Nat _ x d' ∧ @LT.lt Nat _ dx d') ∧ (∀ b o, g'.get? b = some o → @LT.lt Nat _ b d') := ⟨_, _, _, Nl, lo', l1, lb'⟩
  refine loopEnum (lp := []) (news := [(x, ilObj dx [] 0), (dx, nsObj w t1 t2 false d'), (d', dictOf [] 0)])
    (fun i m₁ news₁ => ∃ u u' n o, m₁ = (fun y => if y = Str.ofString "val" then u else if y = Str.ofString "idx" then u' else List.lookup y [(Str.ofString "self", Value.ref x), (Str.ofString "iterable", Value.ref l)].reverse) ∧
      news₁ = [(x, ilObj dx (items.take i) n), (dx, nsObj w t1 t2 false d'), (d', o)] ∧ DictI pg w P o (ds.take i)) rfl
    (fun Q' hQ => hen _ _ _ _ (X'.keeps Fl.keep) (Fl.keep _ _ (hr _ hl)) (fun q hq => Fl.keep _ _ (hr q (hex q hq))) hQ) (.inr ⟨rfl, hr _ hl⟩) hd' Fl (rot3 Nl)
    ⟨_, _, _, _, (map_start _ _).trans (congrArg (fun f => fun y => if y = Str.ofString "val" then _ else f y) (map_start _ _)), rfl, by simpa using DictI.nil⟩ ?_ ?_
  · rintro i t v m₁ news₁ h tk oE oI hv ⟨u, u', n, o, rfl, rfl, hDo⟩ F₁ N₁ hne
    obtain ⟨y, hxi, hx⟩ := hI.get i v hv
    have hlt : i < ds.length := (List.getElem?_eq_some_iff.mp hxi).1
    have hti : (ds.take i).length = i := by rw [List.length_take]; omega
    have htl : (items.take i).length = i := by rw [List.length_take]; omega
    have hnin := notIn_take hnd hxi
    simp only [List.cons_append, List.nil_append] at N₁
    have hne1 := hne _ (.head _)
    have hne2 := hne _ (.tail _ (.head _))
    have hne3 := hne _ (.tail _ (.tail _ (.head _)))
    clear hne Fl Nl
    dsimp only at N₁ hne1 hne2 hne3 F₁
    rw [map_pair] at F₁
    obtain ⟨hne1a, hne1b⟩ := hne1
    obtain ⟨hne2a, hne2b⟩ := hne2
    obtain ⟨hne3a, hne3b⟩ := hne3
    show wpAny _ _ _ _ _ _
    k_fold
    k_steps
    rename Fr g' _ _ _ => F2
    rename News g' _ _ _ => N2
    rename DictI _ _ _ _ (_ ++ _) => D2
    have etk : items.take (i + 1) = items.take i ++ [v] := by rw [List.take_add_one, hv]; rfl
    refine TurnEnd2.intro (news₂ := [(x, _), (dx, nsObj w t1 t2 false d'), (d', _)]) F2 N2 (fun p hp => ?_) ⟨_, _, _, _, rfl, by rw [etk], ?_⟩
    · simp only [List.mem_cons, List.not_mem_nil, or_false] at hp
      rcases hp with hp | hp | hp <;> subst hp
      · exact ⟨hne1a, hne1b⟩
      · exact ⟨hne2a, hne2b⟩
      · exact ⟨hne3a, hne3b⟩
    · rw [List.take_add_one, hxi]; exact D2
  · rintro h2 tk m2 news2 F2 N2 ⟨u, u', n, o, rfl, rfl, hDo⟩
    simp only [List.nil_append] at N2
    clear Fl Nl
    rw [hlen', List.take_length] at hDo
    rw [List.take_length] at N2
    dsimp only
    k_steps
    rename Fr g' _ _ _ => F3
    rename News g' _ _ _ => N3
    exact LeaveL.intro F3 N3 fun F₁ N₁ _ => ret _ _ _ _ _ _ _ F₁ N₁ hDo (fun q hq => Nat.ne_of_lt (lb' _ _ (hr q hq))) (Nat.ne_of_lt l1.1) (Nat.ne_of_lt l1.2) lo'
end Mine

-- part MO
namespace Mine
-- the walker keeps the rules that it found as long as their number stays: a step under no local rule makes it look anew
theorem anewMO {w : PySem.World} {A : PySem.Around} {E : PySem.Value → PySem.Shared → Prop} {Q : PySem.Flow → PySem.Shared → Prop} {s : PySem.Shared} {env : PySem.Env} (h : PySem.wpAny (PySem.model PySem.Challenge.rw_aa5017_01.row.prog w) A (PySem.execs [] env) Q E s) :
    PySem.wpAny (PySem.model PySem.Challenge.rw_aa5017_01.row.prog w) A (PySem.execs [] env) Q E s := by
  first | (walk1; fail) | exact h
end Mine
open PySem PySem.W PyProof.Rows PySem.Calls PySem.Builtin PySem.Builtin.ObjectAttr
set_option Elab.async false
set_option maxRecDepth 100000
namespace Mine
theorem new0_K {w : World} {A₀ : Around} {dp un : Nat} {gd : Option (List Code)} {s : Shared} {base h₀ : Heap} {outer : List Env} {L : Addr} {m : Str → Option Value} {env : Env} {rest : Led}
    {mean : ExcName → Option Value} {mg mb : Str → Option Value} {Q E : Value → Shared → Prop}
    (B : Below A₀ base outer h₀) (F : Fr h₀ L s.heap m) (X₀ : (hd.heap_39 w.params).In h₀) (T : TP mean mg mb h₀) (hf : env.frame = some L) (hke : env.scope.kind = .function)
    (hroom : dp + 19 < recursionLimit) (hu : un + 190 < cLine) (N : News h₀ L s.heap rest)
    (ret : ∀ h' tk' x dx d t1 t2, Fr h₀ L h' m → News h₀ L h' ([(x, ilObj dx [] 0), (dx, nsObj w t1 t2 true d), (d, dictOf [] 0)] ++ rest) → (∀ q ∈ rest, @Ne Nat q.1 x ∧ @Ne Nat q.1 dx ∧ @Ne Nat q.1 d) → @Ne Nat x dx → @Ne Nat x d → @Ne Nat dx d → (d == sysModules) = false →
      Q (.ref x) { s with heap := h', toks := tk' }) :
    wpAny (model pg w) (topA dp un gd env outer) (call (.ref 68) []) Q E s := by
  refine wpAny_call (make_il F X₀ N fun x dx h' F' N' hlt hdx => ?_)
  rw [under_top rfl rfl]
  have lt' : ∀ q ∈ rest, @LT.lt Nat _ q.1 x := fun q hq => Nat.lt_trans (hlt q hq) hdx
  refine init0_K (s := { s with heap := h' }) (rest := rest) B F' X₀ T hf hke (by omega) (by omega) N' (fun q hq r hr => ?_) (Nat.ne_of_gt hdx) fun h2 tk2 d t1 t2 F2 N2 e1 e2 e3 lo => ?_
  · simp only [List.mem_cons, List.not_mem_nil, or_false] at hq
    rcases hq with hq | hq <;> subst hq
    · exact Nat.ne_of_gt (lt' r hr)
    · exact Nat.ne_of_gt (hlt r hr)
  · exact ⟨rfl, ret h2 tk2 x dx d t1 t2 F2 N2 (fun q hq => ⟨Nat.ne_of_lt (lt' q hq), Nat.ne_of_lt (hlt q hq), e1 q hq⟩) (Nat.ne_of_gt hdx) e2 e3 lo⟩

theorem new1_K {w : World} {A₀ : Around} {dp un : Nat} {gd : Option (List Code)} {s : Shared} {base h₀ : Heap} {outer : List Env} {L : Addr} {m : Str → Option Value} {env : Env} {rest : Led}
    {mean : ExcName → Option Value} {mg mb : Str → Option Value} {P : Addr → Obj → Prop} {l : Addr} {ol : Obj} {items : List Value} {ne : Nat} {ds : List Dt} {extra : Led} {Q E : Value → Shared → Prop}
    (B : Below A₀ base outer h₀) (F : Fr h₀ L s.heap m) (X₀ : (hd.heap_39 w.params).In h₀) (T : TP mean mg mb h₀) (hf : env.frame = some L) (hke : env.scope.kind = .function)
    (hroom : dp + 19 < recursionLimit) (hu : un + 190 < cLine) (N : News h₀ L s.heap rest)
    (hP : PIn P h₀ rest) (hl : (l, ol) ∈ rest) (hd' : ol.data = .seq items.toArray ne) (hI : Dens w P items ds) (hnd : ds.Nodup) (hlen : ds.length ≤ 1000) (hex : ∀ q ∈ extra, q ∈ rest)
    (hen : ∀ (A : Around) (s' : Shared) (Q' E' : Value → Shared → Prop), (hd.heap_39 w.params).In s'.heap → s'.heap.get? l = some ol → (∀ q ∈ extra, s'.heap.get? q.1 = some q.2) →
      (∀ h', IsEnum h' (s'.heap.objs.size + 1) s'.heap.objs.size 0 .none → h'.IsListIter s'.heap.objs.size l 0 → h'.objs.size = s'.heap.objs.size + 2 →
      (∀ b o, s'.heap.get? b = some o → h'.get? b = some o) → Q' (.ref (s'.heap.objs.size + 1)) { s' with heap := h' }) → wpAny (model pg w) A (call (.type "enumerate") [.ref l]) Q' E' s')
    (ret : ∀ h' tk' x dx d n' od t1 t2, Fr h₀ L h' m → News h₀ L h' ([(x, ilObj dx items n'), (dx, nsObj w t1 t2 false d), (d, od)] ++ rest) → DictI pg w P od ds → (∀ q ∈ rest, @Ne Nat q.1 x ∧ @Ne Nat q.1 dx ∧ @Ne Nat q.1 d) → @Ne Nat x dx → @Ne Nat x d → @Ne Nat dx d → (d == sysModules) = false →
      Q (.ref x) { s with heap := h', toks := tk' }) :
    wpAny (model pg w) (topA dp un gd env outer) (call (.ref 68) [.ref l]) Q E s := by
  refine wpAny_call (make_il F X₀ N fun x dx h' F' N' hlt hdx => ?_)
  rw [under_top rfl rfl]
  have lt' : ∀ q ∈ rest, @LT.lt Nat _ q.1 x := fun q hq => Nat.lt_trans (hlt q hq) hdx
  refine init1_K (s := { s with heap := h' }) (rest := rest) B F' X₀ T hf hke (by omega) (by omega) N' (fun q hq r hr => ?_) (Nat.ne_of_gt hdx) hP hl hd' hI hnd hlen hex hen fun h2 tk2 d n' od t1 t2 F2 N2 D2 e1 e2 e3 lo => ?_
  · simp only [List.mem_cons, List.not_mem_nil, or_false] at hq
    rcases hq with hq | hq <;> subst hq
    · exact Nat.ne_of_gt (lt' r hr)
    · exact Nat.ne_of_gt (hlt r hr)
  · exact ⟨rfl, ret h2 tk2 x dx d n' od t1 t2 F2 N2 D2 (fun q hq => ⟨Nat.ne_of_lt (lt' q hq), Nat.ne_of_lt (hlt q hq), e1 q hq⟩) (Nat.ne_of_gt hdx) e2 e3 lo⟩

/-- enumerate over a plain list, over an IndexedList -/
theorem hen_list {w : World} {l : Addr} {vs : List Value} {ne : Nat} : ∀ (A : Around) (s' : Shared) (Q' E' : Value → Shared → Prop), (hd.heap_39 w.params).In s'.heap → s'.heap.get? l = some (listOf vs.toArray ne) → (∀ q ∈ ([] : Led), s'.heap.get? q.1 = some q.2) →
      (∀ h', IsEnum h' (s'.heap.objs.size + 1) s'.heap.objs.size 0 .none → h'.IsListIter s'.heap.objs.size l 0 → h'.objs.size = s'.heap.objs.size + 2 →
      (∀ b o, s'.heap.get? b = some o → h'.get? b = some o) → Q' (.ref (s'.heap.objs.size + 1)) { s' with heap := h' }) → wpAny (model pg w) A (call (.type "enumerate") [.ref l]) Q' E' s' :=
  fun _ _ _ _ _ hl _ h => call_enumerate_list ⟨_, hl, rfl, ne, rfl⟩ h
theorem hen_il {w : World} {l ns : Addr} {vs : List Value} {n : Nat} {on : Obj} : ∀ (A : Around) (s' : Shared) (Q' E' : Value → Shared → Prop), (hd.heap_39 w.params).In s'.heap → s'.heap.get? l = some (ilObj ns vs n) → (∀ q ∈ ([(ns, on)] : Led), s'.heap.get? q.1 = some q.2) →
      (∀ h', IsEnum h' (s'.heap.objs.size + 1) s'.heap.objs.size 0 .none → h'.IsListIter s'.heap.objs.size l 0 → h'.objs.size = s'.heap.objs.size + 2 →
      (∀ b o, s'.heap.get? b = some o → h'.get? b = some o) → Q' (.ref (s'.heap.objs.size + 1)) { s' with heap := h' }) → wpAny (model pg w) A (call (.type "enumerate") [.ref l]) Q' E' s' :=
  fun _ _ _ _ X hl hx h => enum_il X ⟨hl, rfl, rfl, hx _ (.head _)⟩ h
end Mine

-- part MV
namespace Mine
-- the walker keeps the rules that it found as long as their number stays: a step under no local rule makes it look anew
theorem anewMV {w : PySem.World} {A : PySem.Around} {E : PySem.Value → PySem.Shared → Prop} {Q : PySem.Flow → PySem.Shared → Prop} {s : PySem.Shared} {env : PySem.Env} (h : PySem.wpAny (PySem.model PySem.Challenge.rw_aa5017_01.row.prog w) A (PySem.execs [] env) Q E s) :
    PySem.wpAny (PySem.model PySem.Challenge.rw_aa5017_01.row.prog w) A (PySem.execs [] env) Q E s := by
  first | (walk1; fail) | exact h
end Mine
open PySem PySem.W PyProof.Rows PySem.Calls PySem.Builtin PySem.Builtin.ObjectAttr
set_option Elab.async false
set_option maxRecDepth 100000
namespace Mine
local macro_rules | `(tactic| walk_at "getMethod type:list") => `(tactic| (k_here; refine' method_type ?F ?X ?m (by decide +kernel) ?e ?h ?_; (case F => k_asm); (case X => k_asm); (case m => exact meta_list); (case e => k_dflt k_is); (case h => k_handed)))
local macro_rules | `(tactic| k_inst) => `(tactic| (refine' inst_il ?N ?h1 ?h2; (case N => k_asm); (case h1 => k_mem); (case h2 => k_mem)))
local macro_rules | `(tactic| walk_at "getAttr ref") => `(tactic| (k_here; k_dflt (refine' getOwn_il ?k1 ?k2 ?k3 ?k4 ?k5 ?k6 ?k7 ?_; (case k1 => k_asm); (case k2 => k_asm); (case k3 => k_inst); (case k4 => k_is); (case k5 => k_is); (case k6 => k_get); (case k7 => k_handed); k_whole)))
local macro_rules | `(tactic| walk_at "getMethod ref") => `(tactic| (k_here; k_dflt (refine' method_il ?k1 ?k2 ?k3 ?k4 ?k5 ?k6 ?_; (case k1 => k_asm); (case k2 => k_asm); (case k3 => k_inst); (case k4 => k_is); (case k5 => k_is); (case k6 => k_get); k_whole)))
local macro_rules | `(tactic| walk_at "call builtin:len") => `(tactic| (k_here; (with_reducible show wpAny _ _ (call (Value.builtin "len") [Value.ref _]) _ _ _); k_dflt (refine' lenK_il ?k1 ?k2 ?k3 ?k4 ?_; (case k1 => k_asm); (case k2 => k_asm); (case k3 => k_inst); (case k4 => omega); k_whole)))
local macro_rules | `(tactic| walk_at "call builtin:list.append") => `(tactic| (k_here; k_dflt (refine' append_il ?k1 ?k2 ?k3 ?k4 ?k5 ?k6 ?_; (case k1 => k_asm); (case k2 => k_asm); (case k3 => k_asm); (case k4 => k_inst); (case k5 => k_upd); (case k6 => omega); k_whole; intro h' F' N'; k_sweep)))
local macro_rules | `(tactic| walk_at "compareOp NotIn") => `(tactic| (k_here; k_dflt (refine' notIn_K ?k1 ?k2 ?k3 ?k4 ?k5 ?k6 ?k7 ?k8 ?_; (case k1 => k_asm); (case k2 => k_asm); (case k3 => k_asm); (case k4 => k_mem); (case k5 => assumption); (case k6 => assumption); (case k7 => assumption); (case k8 => ((try simp only [units_in1, units_deeper]); (try dsimp only); omega)); k_whole; intro tk')))
local macro_rules | `(tactic| walk_at "setItem ref int") => `(tactic| (k_here; k_dflt (refine' setItem_K ?k1 ?k2 ?k3 ?k4 ?k5 ?k6 ?k7 ?k8 ?k9 ?k10 ?_; (case k1 => k_asm); (case k2 => k_asm); (case k3 => k_updF); (case k4 => k_asm); (case k5 => assumption); (case k6 => assumption); (case k7 => ((try simp only [units_in1, units_deeper]); (try dsimp only); omega)); (case k8 => omega); (case k9 => first | assumption | exact notMem_of (by assumption)); (case k10 => omega); k_whole; intro h' od' tk' D' F' N'; k_sweep)))

local macro_rules | `(tactic| walk_at "setAttr ref ref") => `(tactic| (k_here; k_dflt (refine' set_il ?k1 ?k2 ?k3 ?k4 ?k5 ?k6 ?k7 ?k8 ?k9 ?_; (case k1 => k_asm); (case k2 => k_asm); (case k3 => k_asm); (case k4 => k_inst); (case k5 => k_is); (case k6 => k_get); (case k7 => k_put); (case k8 => k_upd); (case k9 => exact Nat.le_of_ble_eq_true rfl); k_whole; intro h' F' N'; k_sweep)))
local macro_rules | `(tactic| walk_at "setAttr ref bool") => `(tactic| (k_here; k_dflt (refine' set_il ?k1 ?k2 ?k3 ?k4 ?k5 ?k6 ?k7 ?k8 ?k9 ?_; (case k1 => k_asm); (case k2 => k_asm); (case k3 => k_asm); (case k4 => k_inst); (case k5 => k_is); (case k6 => k_get); (case k7 => k_put); (case k8 => k_upd); (case k9 => exact Nat.le_of_ble_eq_true rfl); k_whole; intro h' F' N'; k_sweep)))
local macro_rules | `(tactic| walk_at "eval Dict nil nil") => `(tactic| (k_here; k_dflt (refine' dict_nil ?k1 ?k2 ?k3 ?_; (case k1 => k_asm); (case k2 => k_asm); (case k3 => k_asm); k_whole; intro d' h' F' N' l1 lo' lb'; (try k_lt l1); k_sweep)))
def vals12 : List Dt := [.inl (.inl 0), .inl (.inl 7), .inl (.inr (Str.ofString "a")), .inl (.inr (Str.ofString "b")), .inl (.inr (Str.ofString "A")), .inl (.inr (Str.ofString "")),
  .inr [.inl 1, .inl 2], .inr [.inl 2, .inl 1], .inr [.inr (Str.ofString "a"), .inl 7], .inl (.inl (-5)), .inl (.inr (Str.ofString "7")), .inl (.inl 300)]
theorem isAt_int {n : Int} {t : Tok} : isAt (.inl n) (.int n t) = true := by simp [isAt, Value.isInt]
theorem isAt_str {x : Str} {t : Tok} : isAt (.inr x) (.str x t) = true := by simp [isAt, Value.isStrOf]
theorem den_int {w : World} {P : Addr → Obj → Prop} {n : Int} {t : Tok} : DenP pg w P (.int n t) (.inl (.inl n)) := by
  show Value.isInt n (.int n t) = true
  simp [Value.isInt]
theorem den_str {w : World} {P : Addr → Obj → Prop} {x : Str} {t : Tok} : DenP pg w P (.str x t) (.inl (.inr x)) := by
  show Value.isStrOf x (.str x t) = true
  simp [Value.isStrOf]
set_option maxHeartbeats 4000000 in
theorem values_K {w : World} {A₀ : Around} {dp un : Nat} {gd : Option (List Code)} {s : Shared} {base h₀ : Heap} {outer : List Env} {L : Addr} {m : Str → Option Value} {env : Env} {rest : Led}
    {mean : ExcName → Option Value} {mg mb : Str → Option Value} {Q E : Value → Shared → Prop}
    (B : Below A₀ base outer h₀) (F : Fr h₀ L s.heap m) (X₀ : (hd.heap_39 w.params).In h₀) (T : TP mean mg mb h₀) (hf : env.frame = some L) (hke : env.scope.kind = .function)
    (hroom : dp + 9 < recursionLimit) (hu : un + 90 < cLine) (N : News h₀ L s.heap rest)
    (ret : ∀ h' tk' l n vs tups, Fr h₀ L h' m → News h₀ L h' (((l, W.listOf vs.toArray n) :: tups) ++ rest) → (∀ p ∈ (l, W.listOf vs.toArray n) :: tups, ∀ q ∈ rest, @Ne Nat p.1 q.1) → (∀ p ∈ tups, @Ne Nat p.1 l) → (∀ p ∈ tups, p.2.cls = .type "tuple") →
      Dens w (fun b o => (b, o) ∈ tups) vs vals12 → Q (.ref l) { s with heap := h', toks := tk' }) :
    wpAny (model pg w) (topA dp un gd env outer) (call (.ref 79) []) Q E s := by
  have fill : (PySem.Challenge.rw_aa5017_01, hd.heap_39) = (PySem.Challenge.rw_aa5017_01, hd.heap_39) := by k_fill; rfl
  refine wpAny_call ?_
  k_dflt (refine' enterL (fp := []) (binds := []) B F X₀ N (fun _ h => nomatch h) T ?kA hf hke ?k6 ?k7 ?k8 ?k9 ?kB ?_ ?c2 ?c3 ?c4 ?c5; (case kA => exact rfl); (case k6 => k_is); (case k7 => k_is); (case k8 => (show dp < recursionLimit; omega)); (case k9 => exact BindsTo.of_eq rfl); (case kB => exact locs rfl); (case c2 => exact rfl); (case c3 => exact rfl); (case c4 => exact rfl); (case c5 => decide); k_whole)
  intro g' L' h' st hr F' N' B' X' T' hg lt
  (try dsimp only)
  k_fold
  k_steps
  rename Fr g' _ _ _ => F3
  rename News g' _ _ _ => N3
  rename _ < _ ∧ _ < _ ∧ _ < _ => l1
  have hfr : ∀ p : Addr × Obj, g'.get? p.1 = none → ∀ q ∈ rest, @Ne Nat p.1 q.1 := fun p hp q hq e => by have := hr q hq; rw [← show p.1 = q.1 from e, hp] at this; cases this
  refine LeaveL.intro F3 N3 fun F₁ N₁ _ => ret _ _ _ _ _ _ F₁ N₁ (fun p hp => hfr p (N3 p hp).2.2) (fun p hp => ?_) (fun p hp => ?_) ?_
  · simp only [List.mem_cons, List.not_mem_nil, or_false] at hp
    rcases hp with h | h | h <;> subst h
    · exact Nat.ne_of_lt l1.1
    · exact Nat.ne_of_lt l1.2.1
    · exact Nat.ne_of_lt l1.2.2
  · simp only [List.mem_cons, List.not_mem_nil, or_false] at hp
    rcases hp with h | h | h <;> subst h <;> rfl
  · unfold vals12
    refine .cons den_int (.cons den_int (.cons den_str (.cons den_str (.cons den_str (.cons den_str (.cons ?_ (.cons ?_ (.cons ?_ (.cons den_int (.cons den_str (.cons den_int .nil)))))))))))
    · refine ⟨_, rfl, _, _, _, .tail _ (.tail _ (.head _)), rfl, rfl, ?_⟩; exact .cons (by simp [atKind, isAt, Value.isInt]) (.cons (by simp [atKind, isAt, Value.isInt]) .nil)
    · refine ⟨_, rfl, _, _, _, .tail _ (.head _), rfl, rfl, ?_⟩; exact .cons (by simp [atKind, isAt, Value.isInt]) (.cons (by simp [atKind, isAt, Value.isInt]) .nil)
    · refine ⟨_, rfl, _, _, _, .head _, rfl, rfl, ?_⟩; exact .cons (by simp [atKind, isAt, Value.isStrOf]) (.cons (by simp [atKind, isAt, Value.isInt]) .nil)
end Mine

-- part MW
namespace Mine
-- the walker keeps the rules that it found as long as their number stays: a step under no local rule makes it look anew
theorem anewMW {w : PySem.World} {A : PySem.Around} {E : PySem.Value → PySem.Shared → Prop} {Q : PySem.Flow → PySem.Shared → Prop} {s : PySem.Shared} {env : PySem.Env} (h : PySem.wpAny (PySem.model PySem.Challenge.rw_aa5017_01.row.prog w) A (PySem.execs [] env) Q E s) :
    PySem.wpAny (PySem.model PySem.Challenge.rw_aa5017_01.row.prog w) A (PySem.execs [] env) Q E s := by
  first | (walk1; fail) | exact h
end Mine
open PySem PySem.W PyProof.Rows PySem.Calls PySem.Builtin PySem.Builtin.ObjectAttr
set_option Elab.async false
set_option maxRecDepth 100000
namespace Mine
def encA : At → PyData
  | .inl n => .int n
  | .inr x => .str x
def enc : Dt → PyData
  | .inl a => encA a
  | .inr ks => .tuple (ks.map encA)
def okD (x : Dt) : Prop := (enc x).canLay0 = true

theorem depth_encA (a : At) : (encA a).depth = 0 := by cases a <;> rfl
theorem depthAll_encA : ∀ ks : List At, PyData.depthAll (ks.map encA) = 0
  | [] => rfl
  | a :: r => by simp [PyData.depthAll, depth_encA, depthAll_encA r]
theorem depth_enc (x : Dt) : (enc x).depth ≤ 1 := by
  rcases x with a | ks
  · show (encA a).depth ≤ 1; rw [depth_encA]; omega
  · show (PyData.tuple (ks.map encA)).depth ≤ 1; simp [PyData.depth, depthAll_encA]
theorem depthAll_enc : ∀ ds : List Dt, PyData.depthAll (ds.map enc) ≤ 1
  | [] => by simp [PyData.depthAll]
  | x :: r => by simp only [List.map_cons, PyData.depthAll]; exact Nat.max_le.mpr ⟨depth_enc x, depthAll_enc r⟩
theorem shaped_enc {x : Dt} (h : okD x) : SeqAt.shaped (enc x) = true := by
  unfold SeqAt.shaped
  rw [show (enc x).canLay0 = true from h]
  have := depth_enc x
  simp; omega
theorem canAll : ∀ {ds : List Dt}, (∀ x ∈ ds, okD x) → PyData.canLayAll0 (ds.map enc) = true
  | [], _ => rfl
  | x :: r, h => by simp only [List.map_cons, PyData.canLayAll0, Bool.and_eq_true]; exact ⟨h x (.head _), canAll fun y hy => h y (.tail _ hy)⟩
theorem shaped_encL {ds : List Dt} (h : ∀ x ∈ ds, okD x) : SeqAt.shaped (.list (ds.map enc)) = true := by
  unfold SeqAt.shaped
  have h1 := depthAll_enc ds
  simp only [PyData.canLay0, canAll h, PyData.depth, Bool.true_and]
  exact decide_eq_true (by omega)
theorem eqv_encA (a b : At) : PyData.eqv (encA a) (encA b) = decide (a = b) := by
  rcases a with a | a <;> rcases b with b | b
  · show (a == b) = _; by_cases h : a = b <;> simp [h]
  · show false = _; simp
  · show false = _; simp
  · show (a == b) = _; by_cases h : a = b <;> simp [h]
theorem eqvAll_encA : ∀ ks ls : List At, PyData.eqvAll (ks.map encA) (ls.map encA) = decide (ks = ls)
  | [], [] => by simp [PyData.eqvAll]
  | [], _ :: _ => by simp [PyData.eqvAll]
  | _ :: _, [] => by simp [PyData.eqvAll]
  | a :: r, b :: t => by
    simp only [List.map_cons, PyData.eqvAll, eqv_encA, eqvAll_encA r t]
    by_cases h : a = b <;> by_cases h' : r = t <;> simp [h, h']
theorem eqv_at_tuple (a : At) (ks : List At) : PyData.eqv (encA a) (.tuple (ks.map encA)) = false := by cases a <;> rfl
theorem eqv_tuple_at (a : At) (ks : List At) : PyData.eqv (.tuple (ks.map encA)) (encA a) = false := by cases a <;> rfl
theorem eqv_enc (x y : Dt) : PyData.eqv (enc x) (enc y) = decide (x = y) := by
  rcases x with a | ks <;> rcases y with b | ls
  · show PyData.eqv (encA a) (encA b) = _; rw [eqv_encA]; by_cases h : a = b <;> simp [h]
  · show PyData.eqv (encA a) (.tuple _) = _; rw [eqv_at_tuple]; simp
  · show PyData.eqv (.tuple _) (encA b) = _; rw [eqv_tuple_at]; simp
  · show PyData.eqvAll (ks.map encA) (ls.map encA) = _; rw [eqvAll_encA]; by_cases h : ks = ls <;> simp [h]
theorem eqvAll_enc : ∀ ds es : List Dt, PyData.eqvAll (ds.map enc) (es.map enc) = decide (ds = es)
  | [], [] => by simp [PyData.eqvAll]
  | [], _ :: _ => by simp [PyData.eqvAll]
  | _ :: _, [] => by simp [PyData.eqvAll]
  | a :: r, b :: t => by
    simp only [List.map_cons, PyData.eqvAll, eqv_enc, eqvAll_enc r t]
    by_cases h : a = b <;> by_cases h' : r = t <;> simp [h, h']

theorem reads_at {h : Heap} {a : At} {v : Value} (e : isAt a v = true) : Reads h v (encA a) [] := by
  rcases a with n | x
  · obtain ⟨t, rfl⟩ := at_int e; exact .int _ _
  · obtain ⟨t, rfl⟩ := at_str e; exact .str _ _
theorem reads_ats {h : Heap} {w : World} : ∀ {ks : List At} {vs : List Value}, ItemsAre (atKind pg w) ks vs → ReadsAll h vs (ks.map encA) []
  | _, _, .nil => .nil
  | _, _, .cons e r => .cons (as := []) (bs := []) (reads_at e) (reads_ats r)
theorem DenP.reads {h : Heap} {w : World} {P : Addr → Obj → Prop} {v : Value} {x : Dt} (k : TupsIn P h) (hx : DenP pg w P v x) : Reads h v (enc x) [] := by
  rcases x with a | ks
  · exact reads_at hx
  · obtain ⟨a, rfl, o, items, n, ho, hc, hd, hi⟩ := hx
    exact .tuple (k a o ho hc) hc hd (reads_ats hi)
theorem Dens.reads {h : Heap} {w : World} {P : Addr → Obj → Prop} {vs : List Value} {ds : List Dt} (k : TupsIn P h) (hx : Dens w P vs ds) : ReadsAll h vs (ds.map enc) [] := by
  induction hx with
  | nil => exact .nil
  | cons a _ ih => exact .cons (as := []) (bs := []) (DenP.reads k a) ih
theorem list_reads {h : Heap} {w : World} {P : Addr → Obj → Prop} {l : Addr} {n : Nat} {vs : List Value} {ds : List Dt} (k : TupsIn P h) (hl : h.get? l = some (W.listOf vs.toArray n)) (hx : Dens w P vs ds) :
    Reads h (.ref l) (.list (ds.map enc)) [l] := Reads.list (as := []) hl rfl rfl (hx.reads k)

section
variable {w : World} {A : Around} {E : Value → Shared → Prop} {s : Shared} {l l' : Addr} {n n' : Nat} {vs vs' : List Value} {ds es : List Dt} {P : Addr → Obj → Prop} {u v : Value} {x y : Dt} {Q : Value → Shared → Prop}
theorem ne_LL (k : TupsIn P s.heap) (hl : s.heap.get? l = some (W.listOf vs.toArray n)) (hl' : s.heap.get? l' = some (W.listOf vs'.toArray n')) (hx : Dens w P vs ds) (hx' : Dens w P vs' es) (ok : ∀ x ∈ ds, okD x) (ok' : ∀ x ∈ es, okD x) (hu : A.units + 64 < cLine)
    (h : Q (.bool (!decide (ds = es))) s) : wpAny (model pg w) A (compareOp .NotEq (.ref l) (.ref l')) Q E s :=
  ne_dataH (list_reads k hl hx) (list_reads k hl' hx') (shaped_encL ok) (shaped_encL ok') hu (by
    show Q (.bool (!PyData.eqvAll (ds.map enc) (es.map enc))) s
    rw [eqvAll_enc]; exact h)
theorem ne_DD (k : TupsIn P s.heap) (hx : DenP pg w P u x) (hy : DenP pg w P v y) (ok : okD x) (ok' : okD y) (hu : A.units + 64 < cLine)
    (h : Q (.bool (!decide (x = y))) s) : wpAny (model pg w) A (compareOp .NotEq u v) Q E s :=
  ne_dataH (hx.reads k) (hy.reads k) (shaped_enc ok) (shaped_enc ok') hu (by rw [eqv_enc]; exact h)
theorem eqAt_DD (k : TupsIn P s.heap) (hx : DenP pg w P u x) (hy : DenP pg w P v y) (ok : okD x) (ok' : okD y) (hu : A.in1.units + 64 < cLine) : SeqAt.EqAt A.in1 s u v (decide (x = y)) := by
  rw [← eqv_enc]
  exact keq_at (hx.reads k) (hy.reads k) (shaped_enc ok) (shaped_enc ok') hu
open Classical in
theorem in_L (k : TupsIn P s.heap) (hl : s.heap.get? l = some (W.listOf vs.toArray n)) (hx : Dens w P vs ds) (hv : DenP pg w P v x) (ok : ∀ x ∈ ds, okD x) (okx : okD x) (hu : A.units + 65 < cLine)
    (h : Q (.bool (inD x ds)) s) : wpAny (model pg w) A (compareOp .In v (.ref l)) Q E s := by
  refine SeqAt.in_listAt (items := vs.toArray) (fun u => decide (DenP pg w P u x)) ⟨_, hl, rfl, n, rfl⟩ (fun u hu' => ?_) ?_
  · have hm : u ∈ vs := by simpa using hu'
    obtain ⟨i, hi⟩ := List.mem_iff_getElem?.mp hm
    obtain ⟨y, hy, hd⟩ := hx.get i u hi
    have oky := ok y (List.mem_of_getElem? hy)
    have e : decide (DenP pg w P u x) = decide (y = x) := by
      refine decide_eq_decide.mpr ⟨fun q => ?_, fun q => q ▸ hd⟩
      exact Den.inj (hd.den k) (q.den k)
    rw [e]
    exact eqAt_DD k hd hv oky okx (by simpa using hu)
  · have e : vs.toArray.any (fun u => decide (DenP pg w P u x)) = inD x ds := by
      rw [Bool.eq_iff_iff, List.any_toArray, List.any_eq_true, inD_iff]
      constructor
      · rintro ⟨u, hu', hd⟩
        obtain ⟨i, hi⟩ := List.mem_iff_getElem?.mp hu'
        obtain ⟨y, hy, hd'⟩ := hx.get i u hi
        have := Den.inj (hd'.den k) ((of_decide_eq_true hd).den k)
        exact this ▸ List.mem_of_getElem? hy
      · intro q
        obtain ⟨i, hi⟩ := List.mem_iff_getElem?.mp q
        have hlt : i < vs.length := by rw [hx.length]; exact (List.getElem?_eq_some_iff.mp hi).1
        obtain ⟨y, hy, hd'⟩ := hx.get i vs[i] (List.getElem?_eq_getElem hlt)
        rw [hi] at hy
        cases hy
        exact ⟨vs[i], List.getElem_mem hlt, decide_eq_true hd'⟩
    rw [e]; exact h
open Classical in
theorem notIn_L (k : TupsIn P s.heap) (hl : s.heap.get? l = some (W.listOf vs.toArray n)) (hx : Dens w P vs ds) (hv : DenP pg w P v x) (ok : ∀ x ∈ ds, okD x) (okx : okD x) (hu : A.units + 65 < cLine)
    (h : Q (.bool (!inD x ds)) s) : wpAny (model pg w) A (compareOp .NotIn v (.ref l)) Q E s := by
  refine SeqAt.notIn_listAt (items := vs.toArray) (fun u => decide (DenP pg w P u x)) ⟨_, hl, rfl, n, rfl⟩ (fun u hu' => ?_) ?_
  · have hm : u ∈ vs := by simpa using hu'
    obtain ⟨i, hi⟩ := List.mem_iff_getElem?.mp hm
    obtain ⟨y, hy, hd⟩ := hx.get i u hi
    have oky := ok y (List.mem_of_getElem? hy)
    have e : decide (DenP pg w P u x) = decide (y = x) := by
      refine decide_eq_decide.mpr ⟨fun q => ?_, fun q => q ▸ hd⟩
      exact Den.inj (hd.den k) (q.den k)
    rw [e]
    exact eqAt_DD k hd hv oky okx (by simpa using hu)
  · have e : vs.toArray.any (fun u => decide (DenP pg w P u x)) = inD x ds := by
      rw [Bool.eq_iff_iff, List.any_toArray, List.any_eq_true, inD_iff]
      constructor
      · rintro ⟨u, hu', hd⟩
        obtain ⟨i, hi⟩ := List.mem_iff_getElem?.mp hu'
        obtain ⟨y, hy, hd'⟩ := hx.get i u hi
        have := Den.inj (hd'.den k) ((of_decide_eq_true hd).den k)
        exact this ▸ List.mem_of_getElem? hy
      · intro q
        obtain ⟨i, hi⟩ := List.mem_iff_getElem?.mp q
        have hlt : i < vs.length := by rw [hx.length]; exact (List.getElem?_eq_some_iff.mp hi).1
        obtain ⟨y, hy, hd'⟩ := hx.get i vs[i] (List.getElem?_eq_getElem hlt)
        rw [hi] at hy
        cases hy
        exact ⟨vs[i], List.getElem_mem hlt, decide_eq_true hd'⟩
    rw [e]; exact h
end
end Mine

-- part MX
namespace Mine
-- the walker keeps the rules that it found as long as their number stays: a step under no local rule makes it look anew
theorem anewMX {w : PySem.World} {A : PySem.Around} {E : PySem.Value → PySem.Shared → Prop} {Q : PySem.Flow → PySem.Shared → Prop} {s : PySem.Shared} {env : PySem.Env} (h : PySem.wpAny (PySem.model PySem.Challenge.rw_aa5017_01.row.prog w) A (PySem.execs [] env) Q E s) :
    PySem.wpAny (PySem.model PySem.Challenge.rw_aa5017_01.row.prog w) A (PySem.execs [] env) Q E s := by
  first | (walk1; fail) | exact h
end Mine
open PySem PySem.W PyProof.Rows PySem.Calls PySem.Builtin PySem.Builtin.ObjectAttr
set_option Elab.async false
set_option maxRecDepth 100000
namespace Mine
theorem pick_upto (xs : List Value) (k : Nat) : slicePick xs.toArray none (some (k : Int)) none = (xs.take k).toArray := by
  have e : sliceBounds none (some (k : Int)) none xs.toArray.size = (((0 : Nat) : Int), ((min k xs.toArray.size : Nat) : Int), 1) := by
    simp only [sliceBounds, Option.getD_none, show (1 : Int) > 0 by decide, if_true, if_neg (show ¬ ((k : Int) < 0) by omega)]
    congr 1
    congr 1
    omega
  rw [kmk_pick_nat _ e]
  show ((xs.drop 0).take (min k xs.toArray.size - 0)).toArray = _
  rw [List.drop_zero, Nat.sub_zero, List.size_toArray, kmk_take_min]

section
variable {w : World} {A : Around} {E : Value → Shared → Prop} {s : Shared} {a ns L l : Addr} {items vs : List Value} {n k c : Nat} {on : Obj} {h₀ : Heap} {m : Str → Option Value} {news : Led} {value slice : PySem.Expr} {P : Addr → Obj → Prop} {ds : List Dt} {v : Value} {x : Dt}

theorem tail_il {i : Value} {ops : List Value} {Q : Value → Shared → Prop} (X : (hd.heap_39 w.params).In s.heap) (I : InstAt s.heap a (ilObj ns items n) 68 (some on)) (h : wpAny (model pg w) A (getItem (.ref a) i) Q E s)
    (hs : subscripted slice false (.ref a) i = operate ops (getItem (.ref a) i)) (ht : ∀ r, letTemporaryGo value (.ref a) r = pure ()) :
    wpAny (model pg w) A (subscriptTail value slice (.ref a) i) Q E s := by
  unfold subscriptTail
  refine wpAny_bind ?_
  rw [getitemInPython_of_ne (o := .ref a) (fun q => nomatch q)]
  refine wpAny_bind (wpAny_bind (I.type.here ((looks_findIn X (own_item w.params)).here ?_)))
  have fin : wpAny (model pg w) A (subscripted slice false (.ref a) i) (fun r s₃ => wpAny (model pg w) A (letTemporaryGo value (.ref a) r >>= fun _ => pure r) Q E s₃) E s := by
    rw [hs]
    exact wpAny_operating (wpAny_mono h (fun r s₃ h₃ => wpAny_bind (wpAny_of_eq (ht r) (wpAny_pure h₃))) fun _ _ x => x)
  first
    | exact wpAny_pure (wpAny_bind fin)
    | exact wpAny_bind (wpAny_pure (wpAny_bind fin))
    | exact wpAny_bind fin

theorem slice_il {sl : Addr} {vl vu vs : Value} {lo hi st : Option Int} {Q : Value → Shared → Prop} (X : (hd.heap_39 w.params).In s.heap) (I : InstAt s.heap a (ilObj ns items n) 68 (some on))
    (hs : s.heap.IsSliceOf sl vl vu vs) (pl : IsPart vl lo) (pu : IsPart vu hi) (ps : IsPart vs st) (h0 : st ≠ some 0)
    (h : Q (.ref s.heap.objs.size) { s with heap := s.heap.push { cls := .type "list", data := .seq (slicePick items.toArray lo hi st) } })
    (hsz : items.toArray.size ≤ sizeLine) : wpAny (model pg w) A (getItem (.ref a) (.ref sl)) Q E s := by
  obtain ⟨os, hos, hcs, hds⟩ := id hs
  have hTs : s.TypeIs (.ref sl) "slice" := ⟨os, hos, hcs⟩
  unfold getItem sequenceKey
  refine wpAny_holding (wpAny_bind (wpAny_bind (I.type.here ?_)))
  refine wpAny_bind ((anyM_none X (own_noSeq w.params)).here ?_)
  rw [if_pos (show (!false) = true from rfl)]
  refine wpAny_pure (wpAny_bind (special_il X I (own_item w.params) slot_list_getitem.bind ?_))
  refine call_sub (n := "__getitem__") (.inr (by decide +kernel)) (by decide +kernel) slot_list_getitem.plain entry_list_getitem (args_list_getitem _ _) (isi_il X I) ?_
  show wpAny _ _ (Builtin.List.listSubscript? (.ref sl) >>= _) _ _ s
  refine wpAny_bind ?_
  · unfold Builtin.List.listSubscript?
    refine wpAny_bind (wpAny_specialOf hTs slice_no_index ?_)
    simp only [Option.isNone_none, if_true]
    refine wpAny_pure ?_
    show wpAny _ _ (typeOf (.ref sl) >>= _) _ _ s
    refine wpAny_bind (wpAny_typeOf hTs ?_)
    rw [if_neg (by decide)]
    rw [listSliceParts_eq]
    have hstep : ¬ ((rawPart st == rawInt 0) = true) := by
      cases st with
      | none => exact Bool.false_ne_true
      | some c =>
        intro hh
        have : c = 0 := by simpa [rawPart, rawInt] using hh
        exact h0 (by rw [this])
    refine wpAny_bind (wpAny_bind (wpAny_field hos hds (x := vs) rfl (wpAny_bind (wpAny_listPart ps ?_))))
    rw [if_neg hstep]
    refine wpAny_bind (wpAny_field hos hds (x := vl) rfl (wpAny_bind (wpAny_listPart pl ?_)))
    refine wpAny_bind (wpAny_field hos hds (x := vu) rfl (wpAny_bind (wpAny_listPart pu (wpAny_pure ?_))))
    refine wpAny_bind (m := Builtin.List.listItems (.ref a)) ?_
    · unfold Builtin.List.listItems
      refine wpAny_bind (wpAny_seqItems I.at_ rfl (wpAny_pure ?_))
      refine wpAny_bind (wpAny_of_eq (sliceIndices_raw lo hi st items.toArray.size h0) ?_)
      exact wpAny_bind (wpAny_newObj_type (wpAny_pure (wpAny_pure h)) (Nat.le_trans (slicePick_size_le items.toArray lo hi st) hsz))

theorem itemK_il {i : Nat} {t : Tok} {x : Value} {Q : Value → Shared → Prop} (F : Fr h₀ L s.heap m) (X₀ : (hd.heap_39 w.params).In h₀) (I : InstAt s.heap a (ilObj ns items n) 68 (some on)) (hi : i < 2 ^ 63) (hx : items[i]? = some x) (h : Q x s)
    (hs : subscripted slice false (.ref a) (.int (i : Nat) t) = operate [.ref a, .int (i : Nat) t] (getItem (.ref a) (.int (i : Nat) t))) (ht : ∀ r, letTemporaryGo value (.ref a) r = pure ()) :
    wpAny (model pg w) A (subscriptTail value slice (.ref a) (.int (i : Nat) t)) Q E s :=
  tail_il (X₀.keeps F.keep) I (item_il (X₀.keeps F.keep) I hi hx h) hs ht

theorem sliceK_il {t : Tok} {Q : Value → Shared → Prop} (F : Fr h₀ L s.heap m) (X₀ : (hd.heap_39 w.params).In h₀) (N : News h₀ L s.heap news) (I : InstAt s.heap a (ilObj ns items n) 68 (some on)) (hz : items.length ≤ 1000)
    (h : ∀ D h', Fr h₀ L h' m → News h₀ L h' ((D, W.listOf (items.take k).toArray 0) :: news) → (∀ p ∈ news, p.1 < D) → Q (.ref D) { s with heap := h' })
    (hs : subscripted slice false (.ref a) (.ref s.heap.objs.size) = operate [.ref s.heap.objs.size, .ref a] (getItem (.ref a) (.ref s.heap.objs.size))) (ht : ∀ r, letTemporaryGo value (.ref a) r = pure ()) :
    wpAny (model pg w) A (subscriptTail value slice (.ref a) (.ref s.heap.objs.size)) Q E { s with heap := s.heap.push { cls := .type "slice", data := .fields #[.none, .int (k : Nat) t, .none] } } := by
  have kp : ∀ b o, s.heap.get? b = some o → (s.heap.push { cls := .type "slice", data := .fields #[.none, .int (k : Nat) t, .none] }).get? b = some o := fun b o e => Heap.get?_push_of_some _ e
  have hdict := I.dict
  dsimp only at hdict
  have I' : InstAt (s.heap.push { cls := .type "slice", data := .fields #[.none, .int (k : Nat) t, .none] }) a (ilObj ns items n) 68 (some on) := ⟨kp _ _ I.at_, rfl, rfl, kp _ _ hdict⟩
  refine tail_il (X₀.keeps ((F.push _).keep)) I' (slice_il (X₀.keeps ((F.push _).keep)) I' (Heap.IsSliceOf.new ..) .none (.int _ _) .none (by simp) ?_ (by rw [List.size_toArray, sizeLine_eq]; omega)) hs ht
  have N1 := News.push (F.push { cls := .type "slice", data := .fields #[.none, .int (k : Nat) t, .none] }) (N.grown fun _ _ e => Heap.get?_push_of_some _ e) { cls := .type "list", data := .seq (slicePick items.toArray none (some (k : Int)) none) }
  show Q (.ref (s.heap.push _).objs.size) _
  rw [pick_upto] at N1 ⊢
  exact h _ _ ((F.push _).push _) N1 fun p hp => by rw [Heap.size_push]; exact Nat.lt_succ_of_lt (Heap.lt_size (N p hp).1)

theorem sliceK_L {t : Tok} {Q : Value → Shared → Prop} (F : Fr h₀ L s.heap m) (N : News h₀ L s.heap news) (hl : s.heap.get? l = some (W.listOf vs.toArray c)) (hz : vs.length ≤ 1000)
    (h : ∀ D h', Fr h₀ L h' m → News h₀ L h' ((D, W.listOf (vs.take k).toArray 0) :: news) → (∀ p ∈ news, p.1 < D) → Q (.ref D) { s with heap := h' })
    (hs : subscripted slice false (.ref l) (.ref s.heap.objs.size) = operate [.ref s.heap.objs.size, .ref l] (getItem (.ref l) (.ref s.heap.objs.size))) (ht : ∀ r, letTemporaryGo value (.ref l) r = pure ()) :
    wpAny (model pg w) A (subscriptTail value slice (.ref l) (.ref s.heap.objs.size)) Q E { s with heap := s.heap.push { cls := .type "slice", data := .fields #[.none, .int (k : Nat) t, .none] } } := by
  refine kmk_slice F N (its := vs.toArray) ⟨_, hl, rfl, c, rfl⟩ .none (.int _ _) (fun D h' F' N' l1 => ?_) hs ht (by rw [List.size_toArray, sizeLine_eq]; omega)
  rw [pick_upto] at N'
  exact h D h' F' N' l1

theorem listK_il {Q : Value → Shared → Prop} (hh : A.handled = none) (F : Fr h₀ L s.heap m) (X₀ : (hd.heap_39 w.params).In h₀) (N : News h₀ L s.heap news) (I : InstAt s.heap a (ilObj ns items n) 68 (some on)) (hz : items.length ≤ 1000)
    (h : ∀ D h' tk c', Fr h₀ L h' m → News h₀ L h' ((D, W.listOf items.toArray c') :: news) → (∀ p ∈ news, p.1 < D) → Q (.ref D) { s with heap := h', toks := tk }) :
    wpAny (model pg w) A (call (.type "list") [.ref a]) Q E s :=
  list_il hh (X₀.keeps F.keep) I hz fun h' tk c' k hS => h _ h' tk c' ⟨F.ns.keeps k, fun b o e => k b o (F.keep b o e), F.above⟩ (fun p hp => by
    rcases List.mem_cons.mp hp with e | hp
    · rw [e]; exact ⟨hS, Nat.ne_of_gt F.ns.lt, Heap.get?_none_of_le (Nat.le_of_lt (Nat.lt_of_le_of_lt F.above F.ns.lt))⟩
    · exact ⟨k _ _ (N p hp).1, (N p hp).2⟩) fun p hp => Heap.lt_size (N p hp).1
open Classical in
theorem index_L {Q : Value → Shared → Prop} (kP : TupsIn P s.heap) (hl : s.heap.get? l = some (W.listOf vs.toArray c)) (hx : Dens w P vs ds) (hv : DenP pg w P v x) (ok : ∀ x ∈ ds, okD x) (okx : okD x) (hu : A.units + 66 < cLine) (hz : ds.length ≤ 1000)
    {i : Nat} (hi : ds[i]? = some x) (hnd : ds.Nodup) (h : Q (.int (i : Nat) s.toks) { s with toks := s.toks + 1 }) : wpAny (model pg w) A (call (.builtin "list.index") [.ref l, v]) Q E s := by
  have hlt : i < ds.length := (List.getElem?_eq_some_iff.mp hi).1
  have hlv : i < vs.length := by rw [hx.length]; exact hlt
  have den : ∀ j (hj : j < vs.length), ∃ y, ds[j]? = some y ∧ DenP pg w P vs[j] y := fun j hj => hx.get j vs[j] (List.getElem?_eq_getElem hj)
  refine call_meets PySem.F.slot_list_index ⟨_, hl, rfl⟩ PySem.F.entry_list_index (PySem.F.args_list_index_2 _ _)
    (SeqAt.list_indexAt l vs.toArray c none #[] v (fun u => decide (DenP pg w P u x)) i (by simpa using hlv) (by omega) ?_ ?_) ⟨hl, fun u hu' => ?_, h⟩
  · obtain ⟨y, hy, hd⟩ := den i hlv
    rw [hi] at hy
    cases hy
    exact decide_eq_true (by simpa using hd)
  · intro j hj hji
    obtain ⟨y, hy, hd⟩ := den j (by simpa using hj)
    refine decide_eq_false fun q => ?_
    have e : y = x := Den.inj (hd.den kP) ((show DenP pg w P vs[j] x by simpa using q).den kP)
    subst e
    have := (List.getElem?_inj (by omega) hnd).mp (hy.trans hi.symm)
    omega
  · have hm : u ∈ vs := by simpa using hu'
    obtain ⟨j, hj⟩ := List.mem_iff_getElem?.mp hm
    obtain ⟨y, hy, hd⟩ := hx.get j u hj
    have oky := ok y (List.mem_of_getElem? hy)
    have e : decide (DenP pg w P u x) = decide (y = x) := decide_eq_decide.mpr ⟨fun q => Den.inj (hd.den kP) (q.den kP), fun q => q ▸ hd⟩
    rw [e]
    exact eqAt_DD kP hd hv oky okx (by simp; omega)
end
end Mine

-- part MX2
namespace Mine
-- the walker keeps the rules that it found as long as their number stays: a step under no local rule makes it look anew
theorem anewMX2 {w : PySem.World} {A : PySem.Around} {E : PySem.Value → PySem.Shared → Prop} {Q : PySem.Flow → PySem.Shared → Prop} {s : PySem.Shared} {env : PySem.Env} (h : PySem.wpAny (PySem.model PySem.Challenge.rw_aa5017_01.row.prog w) A (PySem.execs [] env) Q E s) :
    PySem.wpAny (PySem.model PySem.Challenge.rw_aa5017_01.row.prog w) A (PySem.execs [] env) Q E s := by
  first | (walk1; fail) | exact h
end Mine
open PySem PySem.W PyProof.Rows PySem.Calls PySem.Builtin PySem.Builtin.ObjectAttr
set_option Elab.async false
set_option maxRecDepth 100000
namespace Mine
theorem paired_eq {l₁ l₂ : List Value} (h : Paired (fun v y => y = v) l₁ l₂) : l₂ = l₁ := by
  induction h with
  | nil => rfl
  | cons a _ ih => rw [a, ih]
section
variable {w : World} {A : Around} {E : Value → Shared → Prop} {s : Shared} {a ns L : Addr} {items : List Value} {n : Nat} {on : Obj} {h₀ : Heap} {m : Str → Option Value} {news : Led} {env : Env}
theorem compK_il {iter : PySem.Expr} {x : Str} {px p1 pos : Pos} {scope : Scope} {Q : Value → Shared → Prop} (hh : A.handled = none) (F : Fr h₀ L s.heap m) (X₀ : (hd.heap_39 w.params).In h₀) (N : News h₀ L s.heap news)
    (I : InstAt s.heap a (ilObj ns items n) 68 (some on)) (hz : items.length ≤ 1000)
    (hfree : ∀ y ∈ scope.names, y.2 ≠ .free) (hcell : ∀ y ∈ scope.names, y.2 ≠ .cell) (hkind : scope.kind = .function)
    (hnames : ∀ y ∈ scope.names, y.2 = .local → scope.names.lookup y.1 = some .local) (hx : scope.names.lookup x = some .local)
    (hit : wpAny (model pg w) A (eval iter env) (fun xv s₁ => xv = .ref a ∧ s₁ = s) E s)
    (h : ∀ D h' tk c', Fr h₀ L h' m → News h₀ L h' ((D, W.listOf items.toArray c') :: news) → (∀ p ∈ news, @Ne Nat p.1 D) → Q (.ref D) { s with heap := h', toks := tk })
    (hd : (x == ("__debug__" : Str)) = false := by decide) (hs : ∀ x, foldedSetIterable iter env x = pure x := by intro _; rfl) :
    wpAny (model pg w) A (eval (.ListComp (.Name x p1) [⟨.Name x px, iter, [], 0⟩] scope pos) env) Q E s := by
  refine wpAny_ListComp_walk (fun _ => true) (fun v y => y = v) hfree hcell hkind hnames hx (wpAny_mono hit (fun xv s₁ h₁ => ?_) fun _ _ e => e) hs
  obtain ⟨rfl, rfl⟩ := h₁
  have X := X₀.keeps F.keep
  refine iter_il X I ?_
  have hal : a < s₁.heap.objs.size := Heap.lt_size I.at_
  have hne : a ≠ s₁.heap.objs.size := Nat.ne_of_lt hal
  have up : ∀ b o, s₁.heap.get? b = some o → (s₁.heap.push { cls := .type "list_iterator", data := .fields #[.ref a, .int 0 0] }).get? b = some o := fun b o e => Heap.get?_push_of_some _ e
  refine ⟨s₁.heap.objs.size, [s₁.heap.objs.size, a], [s₁.heap.objs.size], items.toArray.size, _, _, rfl, walksSeq (prog := pg) (w := w) hh s₁.heap.objs.size a hne items.toArray, by rw [List.size_toArray, sizeLine_eq]; omega,
    ⟨⟨_, Heap.get?_push_size _ rfl, rfl, rfl⟩, _, n, up _ _ I.at_, rfl⟩, fun b hb => ?_, ⟨?_, ?_⟩, ?_⟩
  · show b < (s₁.heap.push _).objs.size
    rw [Heap.size_push]
    rcases List.mem_cons.mp hb with rfl | hb
    · exact Nat.lt_succ_self _
    · rw [List.mem_singleton.mp hb]; exact Nat.lt_succ_of_lt hal
  · intro C i v s₃ m₃ E' _ _ _ _ _
    exact wpAny_pure ⟨rfl, s₃.heap, s₃.toks, rfl, fun _ _ e => e⟩
  · intro C i v s₃ m₃ E' _ _ hn hm _ _
    refine wpAny_Name (wpAny_loadName_local (by simpa [compEnv] using hkind) (by simpa [compEnv, Env.kindOf] using hx) hn hm ⟨rfl, s₃.heap, s₃.toks, rfl, fun _ _ e => e⟩) hd
  · intro D h' tk ys vs hD _ hpl hlen hP hF hk
    have ev : vs = items := by
      apply List.ext_getElem?
      intro j
      by_cases hj : j < vs.length
      · have := hP j vs[j] (List.getElem?_eq_getElem hj)
        rw [List.getElem?_eq_getElem hj]
        simpa using this.symm
      · rw [List.getElem?_eq_none (by omega), List.getElem?_eq_none (by simp at hlen; omega)]
    have ey := paired_eq hF
    rw [ev, List.filter_eq_self.mpr (fun _ _ => rfl)] at ey
    obtain ⟨c', hc⟩ := hpl
    have ey' : ys = items.toArray := by rw [← ey]
    rw [ey'] at hc
    have nI : ∀ p ∈ news, p.1 ∉ [s₁.heap.objs.size] := fun p hp hm => Nat.ne_of_lt (Heap.lt_size (N p hp).1) (List.mem_singleton.mp hm)
    have keep : ∀ b o, s₁.heap.get? b = some o → h'.get? b = some o := fun b o e => hk b o (fun hm => Nat.ne_of_lt (Heap.lt_size e) (List.mem_singleton.mp hm)) (up b o e)
    have hDn : s₁.heap.get? D = none := by
      cases q : s₁.heap.get? D with
      | none => rfl
      | some o => rw [up _ _ q] at hD; cases hD
    refine h D h' tk c' ⟨F.ns.keeps keep, fun b o e => keep b o (F.keep b o e), F.above⟩ (fun p hp => ?_) (fun p hp e => by have := (N p hp).1; rw [show p.1 = D from e, hDn] at this; cases this)
    rcases List.mem_cons.mp hp with e | hp
    · rw [e]
      refine ⟨hc, fun e' => ?_, ?_⟩
      · obtain ⟨oL, _, _, hL, _⟩ := F.ns
        rw [show D = L from e', hL] at hDn; cases hDn
      · cases q : h₀.get? D with
        | none => rfl
        | some o => rw [F.keep _ _ q] at hDn; cases hDn
    · exact ⟨keep _ _ (N p hp).1, (N p hp).2⟩
end
end Mine

-- part MY
namespace Mine
-- the walker keeps the rules that it found as long as their number stays: a step under no local rule makes it look anew
theorem anewMY {w : PySem.World} {A : PySem.Around} {E : PySem.Value → PySem.Shared → Prop} {Q : PySem.Flow → PySem.Shared → Prop} {s : PySem.Shared} {env : PySem.Env} (h : PySem.wpAny (PySem.model PySem.Challenge.rw_aa5017_01.row.prog w) A (PySem.execs [] env) Q E s) :
    PySem.wpAny (PySem.model PySem.Challenge.rw_aa5017_01.row.prog w) A (PySem.execs [] env) Q E s := by
  first | (walk1; fail) | exact h
end Mine
open PySem PySem.W PyProof.Rows PySem.Calls PySem.Builtin PySem.Builtin.ObjectAttr
set_option Elab.async false
set_option maxRecDepth 100000
namespace Mine
local macro_rules | `(tactic| walk_at "getMethod type:list") => `(tactic| (k_here; refine' method_type ?F ?X ?m (by decide +kernel) ?e ?h ?_; (case F => k_asm); (case X => k_asm); (case m => exact meta_list); (case e => k_dflt k_is); (case h => k_handed)))
local macro_rules | `(tactic| k_inst) => `(tactic| (refine' inst_il ?N ?h1 ?h2; (case N => k_asm); (case h1 => k_mem); (case h2 => k_mem)))
local macro_rules | `(tactic| walk_at "getAttr ref") => `(tactic| (k_here; k_dflt (refine' getOwn_il ?k1 ?k2 ?k3 ?k4 ?k5 ?k6 ?k7 ?_; (case k1 => k_asm); (case k2 => k_asm); (case k3 => k_inst); (case k4 => k_is); (case k5 => k_is); (case k6 => k_get); (case k7 => k_handed); k_whole)))
local macro_rules | `(tactic| walk_at "getMethod ref") => `(tactic| (k_here; k_dflt (refine' method_il ?k1 ?k2 ?k3 ?k4 ?k5 ?k6 ?_; (case k1 => k_asm); (case k2 => k_asm); (case k3 => k_inst); (case k4 => k_is); (case k5 => k_is); (case k6 => k_get); k_whole)))
local macro_rules | `(tactic| walk_at "call builtin:len") => `(tactic| (k_here; (with_reducible show wpAny _ _ (call (Value.builtin "len") [Value.ref _]) _ _ _); k_dflt (refine' lenK_il ?k1 ?k2 ?k3 ?k4 ?_; (case k1 => k_asm); (case k2 => k_asm); (case k3 => k_inst); (case k4 => omega); k_whole)))
local macro_rules | `(tactic| walk_at "call builtin:list.append") => `(tactic| (k_here; k_dflt (refine' append_il ?k1 ?k2 ?k3 ?k4 ?k5 ?k6 ?_; (case k1 => k_asm); (case k2 => k_asm); (case k3 => k_asm); (case k4 => k_inst); (case k5 => k_upd); (case k6 => omega); k_whole; intro h' F' N'; k_sweep)))
local macro_rules | `(tactic| walk_at "compareOp NotIn") => `(tactic| (k_here; k_dflt (refine' notIn_K ?k1 ?k2 ?k3 ?k4 ?k5 ?k6 ?k7 ?k8 ?_; (case k1 => k_asm); (case k2 => k_asm); (case k3 => k_asm); (case k4 => k_mem); (case k5 => assumption); (case k6 => assumption); (case k7 => assumption); (case k8 => ((try simp only [units_in1, units_deeper]); (try dsimp only); omega)); k_whole; intro tk')))
local macro_rules | `(tactic| walk_at "setItem ref int") => `(tactic| (k_here; k_dflt (refine' setItem_K ?k1 ?k2 ?k3 ?k4 ?k5 ?k6 ?k7 ?k8 ?k9 ?k10 ?_; (case k1 => k_asm); (case k2 => k_asm); (case k3 => k_updF); (case k4 => k_asm); (case k5 => assumption); (case k6 => assumption); (case k7 => ((try simp only [units_in1, units_deeper]); (try dsimp only); omega)); (case k8 => omega); (case k9 => first | assumption | exact notMem_of (by assumption)); (case k10 => omega); k_whole; intro h' od' tk' D' F' N'; k_sweep)))

local macro_rules | `(tactic| walk_at "setAttr ref ref") => `(tactic| (k_here; k_dflt (refine' set_il ?k1 ?k2 ?k3 ?k4 ?k5 ?k6 ?k7 ?k8 ?k9 ?_; (case k1 => k_asm); (case k2 => k_asm); (case k3 => k_asm); (case k4 => k_inst); (case k5 => k_is); (case k6 => k_get); (case k7 => k_put); (case k8 => k_upd); (case k9 => exact Nat.le_of_ble_eq_true rfl); k_whole; intro h' F' N'; k_sweep)))
local macro_rules | `(tactic| walk_at "setAttr ref bool") => `(tactic| (k_here; k_dflt (refine' set_il ?k1 ?k2 ?k3 ?k4 ?k5 ?k6 ?k7 ?k8 ?k9 ?_; (case k1 => k_asm); (case k2 => k_asm); (case k3 => k_asm); (case k4 => k_inst); (case k5 => k_is); (case k6 => k_get); (case k7 => k_put); (case k8 => k_upd); (case k9 => exact Nat.le_of_ble_eq_true rfl); k_whole; intro h' F' N'; k_sweep)))
local macro_rules | `(tactic| walk_at "eval Dict nil nil") => `(tactic| (k_here; k_dflt (refine' dict_nil ?k1 ?k2 ?k3 ?_; (case k1 => k_asm); (case k2 => k_asm); (case k3 => k_asm); k_whole; intro d' h' F' N' l1 lo' lb'; (try k_lt l1); k_sweep)))
section
variable {w : World} {A : Around} {E : Value → Shared → Prop} {s : Shared} {l l' : Addr} {n n' : Nat} {vs vs' : List Value} {ds es : List Dt} {P : Addr → Obj → Prop} {u v : Value} {x y : Dt} {Q : Value → Shared → Prop}
theorem same_LL (k : TupsIn P s.heap) (hl : s.heap.get? l = some (W.listOf vs.toArray n)) (hl' : s.heap.get? l' = some (W.listOf vs'.toArray n')) (hx : Dens w P vs ds) (hx' : Dens w P vs' ds) (ok : ∀ x ∈ ds, okD x) (hu : A.units + 64 < cLine)
    (h : Q (.bool false) s) : wpAny (model pg w) A (compareOp .NotEq (.ref l) (.ref l')) Q E s := ne_LL k hl hl' hx hx' ok ok hu (by rw [decide_eq_true rfl]; exact h)
theorem same_DD (k : TupsIn P s.heap) (hx : DenP pg w P u x) (hy : DenP pg w P v x) (ok : okD x) (hu : A.units + 64 < cLine)
    (h : Q (.bool false) s) : wpAny (model pg w) A (compareOp .NotEq u v) Q E s := ne_DD k hx hy ok ok hu (by rw [decide_eq_true rfl]; exact h)
theorem len_L (hl : s.heap.get? l = some (W.listOf vs.toArray n)) (hz : vs.length ≤ 1000) (h : Q (.int vs.length (s.toks + 1)) { s with toks := s.toks + 1 + 1 }) : wpAny (model pg w) A (call (.builtin "len") [.ref l]) Q E s :=
  call_len_list ⟨_, hl, rfl, n, rfl⟩ (by rw [List.size_toArray]; omega) (by rw [List.size_toArray]; exact h)
end
theorem ok_take {ds : List Dt} (ok : ∀ x ∈ ds, okD x) (k : Nat) : ∀ x ∈ ds.take k, okD x := fun x hx => ok x (List.mem_of_mem_take hx)
local macro_rules | `(tactic| walk_at "exec For Tuple Call") => `(tactic| (k_here; k_dflt (refine' For_pairU ?kF ?khh ?ki ?kc ?kp ?_ ?ks; (case kF => k_asm); (case khh => exact rfl); (case ki => exact rfl); (case kc => exact rfl); (case kp => exact rfl); (case ks => intro x; rfl); k_whole)))
theorem indexAt_K {w : World} {A₀ : Around} {dp un : Nat} {gd : Option (List Code)} {s : Shared} {base h₀ : Heap} {outer : List Env} {L : Addr} {m : Str → Option Value} {env : Env} {rest : Led}
    {mean : ExcName → Option Value} {mg mb : Str → Option Value} {P : Addr → Obj → Prop} {a ns d : Addr} {items : List Value} {n i : Nat} {t1 t2 : Tok} {b : Bool} {od : Obj} {ds : List Dt} {v : Value} {x : Dt} {Q E : Value → Shared → Prop}
    (B : Below A₀ base outer h₀) (F : Fr h₀ L s.heap m) (X₀ : (hd.heap_39 w.params).In h₀) (T : TP mean mg mb h₀) (hf : env.frame = some L) (hke : env.scope.kind = .function)
    (hroom : dp + 29 < recursionLimit) (hu : un + 290 < cLine)
    (N : News h₀ L s.heap ([(a, ilObj ns items n), (ns, nsObj w t1 t2 b d), (d, od)] ++ rest)) (dis : ∀ q ∈ [(a, ilObj ns items n), (ns, nsObj w t1 t2 b d), (d, od)], ∀ r ∈ rest, q.1 ≠ r.1)
    (h1 : @Ne Nat a ns) (h2 : @Ne Nat a d) (h3 : @Ne Nat ns d) (hP : PIn P h₀ rest) (hI : Dens w P items ds) (hD : DictI pg w P od ds) (hx : DenP pg w P v x) (lo : (d == sysModules) = false) (hlen : ds.length ≤ 1000) (hi : ds[i]? = some x)
    (ret : ∀ h' tk' d' od' t, Fr h₀ L h' m → News h₀ L h' ([(a, ilObj ns items n), (ns, nsObj w t1 t2 true d'), (d', od')] ++ rest) → DictI pg w P od' ds → (∀ q ∈ rest, @Ne Nat q.1 d') → (∀ b o, h₀.get? b = some o → @Ne Nat b d') → @Ne Nat a d' → @Ne Nat ns d' → (d' == sysModules) = false →
      Q (.int i t) { s with heap := h', toks := tk' }) :
    wpAny (model pg w) (topA dp un gd env outer) (call (.ref 51) [.ref a, v]) Q E s :=
  index_K B F X₀ T hf hke hroom hu N dis h1 h2 h3 hP hI hD hx lo hlen (inD_true (List.mem_of_getElem? hi)) fun h' tk' d' od' j t F' N' D' k1 k2 k3 k4 k5 hj => by
    have hji : j = i := (List.getElem?_inj (List.getElem?_eq_some_iff.mp hj).1 hD.nodup).mp (hj.trans hi.symm)
    rw [hji]
    exact ret h' tk' d' od' t F' N' D' k1 k2 k3 k4 k5
theorem dis_of {a1 a2 : Addr} {o1 o2 : Obj} {fp : Led} (hne : ∀ p ∈ fp, @Ne Nat p.1 a1 ∧ @Ne Nat p.1 a2) : ∀ q ∈ fp, ∀ r ∈ [(a1, o1), (a2, o2)], q.1 ≠ r.1 := fun q hq r hr => by
  simp only [List.mem_cons, List.not_mem_nil, or_false] at hr
  rcases hr with hr | hr <;> subst hr
  · exact (hne q hq).1
  · exact (hne q hq).2
theorem il_last {h₀ h : Heap} {L : Addr} {s1 s2 p q x y z : Addr × Obj} (N : News h₀ L h (s1 :: s2 :: x :: y :: z :: p :: q :: [])) : News h₀ L h ([p, q] ++ [x, y, z]) :=
  fun r hr => N r (by simp only [List.cons_append, List.nil_append, List.mem_cons, List.not_mem_nil, or_false] at hr ⊢; rcases hr with h | h | h | h | h <;> simp [h])
theorem il_first {h₀ h : Heap} {L : Addr} {p q x y z : Addr × Obj} (N : News h₀ L h (p :: q :: x :: y :: z :: [])) : News h₀ L h ([x, y, z] ++ [p, q]) :=
  fun r hr => N r (by simp only [List.cons_append, List.nil_append, List.mem_cons, List.not_mem_nil, or_false] at hr ⊢; rcases hr with h | h | h | h | h <;> simp [h])
local macro_rules | `(tactic| walk_at "subscriptTail") => `(tactic| (k_here; k_dflt (refine' itemK_il ?k1 ?k2 ?k3 ?k4 ?k5 ?_ ?k6 ?k7; (case k1 => k_asm); (case k2 => k_asm); (case k3 => k_inst); (case k4 => omega); (case k5 => assumption); (case k6 => rfl); (case k7 => intro r; rfl); k_whole)))
local macro_rules | `(tactic| walk_at "subscriptTail") => `(tactic| (k_here; k_dflt (refine' sliceK_il ?k1 ?k2 ?k3 ?k4 ?k5 ?_ ?k6 ?k7; (case k1 => k_asm); (case k2 => k_asm); (case k3 => k_asm); (case k4 => k_inst); (case k5 => omega); (case k6 => rfl); (case k7 => intro r; rfl); k_whole; intro D h' F' N' l1; (try k_lt l1); k_sweep)))
local macro_rules | `(tactic| walk_at "subscriptTail") => `(tactic| (k_here; k_dflt (refine' sliceK_L ?k1 ?k2 ?k3 ?k4 ?_ ?k6 ?k7; (case k1 => k_asm); (case k2 => k_asm); (case k3 => first | exact (News.get (by k_asm) (by k_mem)) | exact Fr.keep (by k_asm) _ _ (by assumption)); (case k4 => omega); (case k6 => rfl); (case k7 => intro r; rfl); k_whole; intro D h' F' N' l1; (try k_lt l1); k_sweep)))
local macro_rules | `(tactic| walk_at "compareOp NotEq") => `(tactic| (k_here; k_dflt (refine' same_DD ?k1 ?k2 ?k3 ?k4 ?k5 ?_; (case k1 => exact TupsIn.keeps (by assumption) (Fr.keep (by k_asm))); (case k2 => assumption); (case k3 => assumption); (case k4 => assumption); (case k5 => ((try simp only [units_in1, units_deeper]); (try dsimp only); omega)); k_whole)))
local macro_rules | `(tactic| walk_at "call ref cons") => `(tactic| (k_here; (try dsimp only); (with_reducible show wpAny _ _ (call (Value.ref 51) _) _ _ _); k_dflt (refine' indexAt_K ?kB ?kF ?kX ?kT ?khf ?khk ?kr ?ku ?kN ?kd ?k1 ?k2 ?k3 ?kP ?kI ?kD ?kx ?kl ?kz ?ki ?_; (case kB => k_asm); (case kF => k_asm); (case kX => k_asm); (case kT => k_asm); (case khf => exact rfl); (case khk => exact rfl); (case kr => ((try dsimp only [topA, Around.deeper]); omega)); (case ku => ((try dsimp only [topA, Around.deeper]); omega)); (case kN => assumption); (case kd => assumption); (case k1 => assumption); (case k2 => assumption); (case k3 => assumption); (case kP => exact PIn.nil (by assumption) _); (case kI => assumption); (case kD => assumption); (case kx => assumption); (case kl => assumption); (case kz => assumption); (case ki => assumption); k_whole; intro h' tk' d' od' t F' N' D' lq lg l1 l2 l3; (simp only [List.cons_append, List.nil_append] at N'); k_sweep)))
theorem ok12 : ∀ x ∈ vals12, okD x := by
  intro x hx
  unfold vals12 at hx
  simp only [List.mem_cons, List.not_mem_nil, or_false] at hx
  rcases hx with h | h | h | h | h | h | h | h | h | h | h | h <;> subst h <;> (unfold okD; decide +kernel)
theorem dis_two {fp rest : Led} {I : Addr} {oI : Obj} (h1 : ∀ p ∈ fp, @Ne Nat p.1 I) (h2 : ∀ p ∈ fp, ∀ r ∈ rest, @Ne Nat p.1 r.1) : ∀ q ∈ fp, ∀ r ∈ (I, oI) :: rest, q.1 ≠ r.1 := fun q hq r hr => by
  rcases List.mem_cons.mp hr with e | hr
  · rw [e]; exact h1 q hq
  · exact h2 q hq r hr
theorem tups_in {P : Addr → Obj → Prop} {g h : Heap} {L : Addr} {m : Str → Option Value} {news tups : Led} (hP : TupsIn P g) (F : Fr g L h m) (N : News g L h news) (hs : ∀ q ∈ tups, q ∈ news) : TupsIn (fun b o => P b o ∨ (b, o) ∈ tups) h :=
  fun b o q c => q.elim (fun z => F.keep b o (hP b o z c)) fun z => (N _ (hs _ z)).1
theorem il_front {h₀ h : Heap} {L : Addr} {p l x y z : Addr × Obj} {tups : Led} (N : News h₀ L h (p :: ([l] ++ ([x, y, z] ++ tups)))) : News h₀ L h ([x, y, z] ++ (p :: l :: tups)) :=
  fun r hr => N r (by simp only [List.cons_append, List.nil_append, List.mem_cons] at hr ⊢; rcases hr with h | h | h | h | h | h <;> simp [h])
theorem il_back {h₀ h : Heap} {L : Addr} {p l x y z : Addr × Obj} {tups : Led} (N : News h₀ L h (x :: y :: z :: p :: l :: tups)) : News h₀ L h ([p, l] ++ ([x, y, z] ++ tups)) :=
  fun r hr => N r (by simp only [List.cons_append, List.nil_append, List.mem_cons] at hr ⊢; rcases hr with h | h | h | h | h | h <;> simp [h])
theorem il_vals {h₀ h : Heap} {L : Addr} {l x y z : Addr × Obj} {tups : Led} (N : News h₀ L h ((l :: tups) ++ [x, y, z])) : News h₀ L h ([l] ++ ([x, y, z] ++ tups)) :=
  fun r hr => N r (by simp only [List.cons_append, List.nil_append, List.mem_cons, List.mem_append, List.not_mem_nil, or_false] at hr ⊢; rcases hr with h | h | h | h | h <;> simp [h])
local macro_rules | `(tactic| walk_at "compareOp In") => `(tactic| (k_here; (with_reducible show wpAny _ _ (compareOp _ _ (Value.ref _)) _ _ _); k_dflt (first
  | (refine' inIl_K rfl ?kB ?kF ?kX ?kT ?khf ?khk ?kr ?ku ?kN ?kd ?k1 ?k2 ?k3 ?kP ?ks ?kI ?kD ?kx ?kl ?kz ?_; (case kB => k_asm); (case kF => k_asm); (case kX => k_asm); (case kT => k_asm); (case khf => exact rfl); (case khk => exact rfl); (case kr => ((try dsimp only [topA, Around.deeper]); omega)); (case ku => ((try dsimp only [topA, Around.deeper]); omega)); (case kN => assumption); (case kd => assumption); (case k1 => assumption); (case k2 => assumption); (case k3 => assumption); (case kP => assumption); (case kI => assumption); (case ks => exact fun _ _ h _ => .inl h); (case kD => assumption); (case kx => assumption); (case kl => assumption); (case kz => assumption); k_whole; intro h' tk' d' od' F' N' D' lq lg l1 l2 l3; (simp only [List.cons_append, List.nil_append] at N'); k_sweep)
  | (refine' in_L ?k1 ?k2 ?k3 ?k4 ?k5 ?k6 ?k7 ?_; (case k2 => first | exact (News.get (by k_asm) (by k_mem)) | exact Fr.keep (by k_asm) _ _ (by assumption)); (case k3 => assumption); (case k1 => exact tups_in (by assumption) (by k_asm) (by k_asm) (fun q hq => by simp [hq])); (case k4 => assumption); (case k5 => assumption); (case k6 => assumption); (case k7 => ((try simp only [units_in1, units_deeper]); (try dsimp only); omega)); k_whole))))
theorem fillsY : True ∧ (PySem.Challenge.rw_aa5017_01, hd.heap_39) = (PySem.Challenge.rw_aa5017_01, hd.heap_39) := ⟨trivial, by k_fill; rfl⟩
local macro_rules | `(tactic| walk_at "call type:list") => `(tactic| (k_here; k_dflt (refine' listK_il ?k1 ?k2 ?k3 ?k4 ?k5 ?k6 ?_; (case k1 => rfl); (case k2 => k_asm); (case k3 => k_asm); (case k4 => k_asm); (case k5 => k_inst); (case k6 => omega); k_whole; intro D h' tk c' F' N' l1; (try k_lt l1); k_sweep)))
local macro_rules | `(tactic| walk_at "compareOp NotEq ref ref") => `(tactic| (k_here; k_dflt (refine' same_LL ?k1 ?k2 ?k3 ?k4 ?k5 ?k6 ?k8 ?_; (case k2 => first | exact (News.get (by k_asm) (by k_mem)) | exact Fr.keep (by k_asm) _ _ (by assumption)); (case k3 => first | exact (News.get (by k_asm) (by k_mem)) | exact Fr.keep (by k_asm) _ _ (by assumption)); (case k1 => exact TupsIn.keeps (by assumption) (Fr.keep (by k_asm))); (case k4 => (first | assumption | exact Dens.take (by assumption) _)); (case k5 => (first | assumption | exact Dens.take (by assumption) _)); (case k6 => (first | assumption | exact ok_take (by assumption) _)); (case k8 => ((try simp only [units_in1, units_deeper]); (try dsimp only); omega)); k_whole)))
local macro_rules | `(tactic| walk_at "call builtin:len") => `(tactic| (k_here; (with_reducible show wpAny _ _ (call (Value.builtin "len") [Value.ref _]) _ _ _); k_dflt (first
  | (refine' lenK_il ?k1 ?k2 ?k3 ?k4 ?_; (case k1 => k_asm); (case k2 => k_asm); (case k3 => k_inst); (case k4 => omega); k_whole)
  | (refine' len_L ?k1 ?k2 ?_; (case k1 => first | exact (News.get (by k_asm) (by k_mem)) | exact Fr.keep (by k_asm) _ _ (by assumption)); (case k2 => omega); k_whole))))
local macro_rules | `(tactic| walk_at "eval ListComp") => `(tactic| (k_here; k_dflt (refine' compK_il ?k1 ?k2 ?k3 ?k4 ?k5 ?k6 ?k7 ?k8 ?k9 ?k10 ?k11 ?k12 ?_; (case k1 => rfl); (case k2 => k_asm); (case k3 => k_asm); (case k4 => k_asm); (case k5 => k_inst); (case k6 => omega); (case k7 => decide); (case k8 => decide); (case k9 => rfl); (case k10 => decide); (case k11 => rfl); (case k12 => (walk_at "eval Name"; exact ⟨rfl, rfl⟩)); k_whole; intro D h' tk c' F' N' l1; k_sweep)))
set_option maxHeartbeats 4000000 in
theorem so_K {w : World} {A₀ : Around} {dp un : Nat} {gd : Option (List Code)} {s : Shared} {base h₀ : Heap} {outer : List Env} {L : Addr} {m : Str → Option Value} {env : Env} {rest : Led}
    {mean : ExcName → Option Value} {mg mb : Str → Option Value} {P : Addr → Obj → Prop} {a ns d e : Addr} {items dv : List Value} {n ne : Nat} {t1 t2 : Tok} {b : Bool} {od : Obj} {ds : List Dt} {Q E : Value → Shared → Prop}
    (B : Below A₀ base outer h₀) (F : Fr h₀ L s.heap m) (X₀ : (hd.heap_39 w.params).In h₀) (T : TP mean mg mb h₀) (hf : env.frame = some L) (hke : env.scope.kind = .function)
    (hroom : dp + 49 < recursionLimit) (hu : un + 490 < cLine)
    (N : News h₀ L s.heap ([(a, ilObj ns items n), (ns, nsObj w t1 t2 b d), (d, od)] ++ rest)) (dis : ∀ q ∈ [(a, ilObj ns items n), (ns, nsObj w t1 t2 b d), (d, od)], ∀ r ∈ rest, q.1 ≠ r.1)
    (h1 : @Ne Nat a ns) (h2 : @Ne Nat a d) (h3 : @Ne Nat ns d) (hP : PIn P h₀ rest) (hI : Dens w P items ds) (hV : Dens w P dv ds) (hdue : (e, W.listOf dv.toArray ne) ∈ rest) (hD : DictI pg w P od ds) (lo : (d == sysModules) = false) (hlen : ds.length ≤ 1000) (ok : ∀ x ∈ ds, okD x)
    (ret : ∀ h' tk' d' od', Fr h₀ L h' m → News h₀ L h' ([(a, ilObj ns items n), (ns, nsObj w t1 t2 true d'), (d', od')] ++ rest) → DictI pg w P od' ds → (∀ q ∈ rest, @Ne Nat q.1 d') → @Ne Nat a d' → @Ne Nat ns d' → (d' == sysModules) = false →
      Q (.bool true) { s with heap := h', toks := tk' }) :
    wpAny (model pg w) (topA dp un gd env outer) (call (.ref 84) [.ref a, .ref e]) Q E s := by
  have fill : (PySem.Challenge.rw_aa5017_01, hd.heap_39) = (PySem.Challenge.rw_aa5017_01, hd.heap_39) := by k_fill; rfl
  refine wpAny_call ?_
  k_dflt (refine' enterL (binds := [(Str.ofString "told", .ref a), (Str.ofString "due", .ref e)]) B F X₀ N dis T ?kA hf hke ?k6 ?k7 ?k8 ?k9 ?kB ?_ ?c2 ?c3 ?c4 ?c5; (case kA => exact rfl); (case k6 => k_is); (case k7 => k_is); (case k8 => (show dp < recursionLimit; omega)); (case k9 => exact BindsTo.of_eq rfl); (case kB => exact locs rfl); (case c2 => exact rfl); (case c3 => exact rfl); (case c4 => exact rfl); (case c5 => decide); k_whole)
  intro g' L' h' st hr F' N' B' X' T' hg lt
  (try dsimp only)
  k_fold
  have hPg : TupsIn P g' := fun b o p c => (hP b o p c).elim (st b o) (hr _)
  have hlen' := hI.length
  have hlenv := hV.length
  have hdg : g'.get? e = some (W.listOf dv.toArray ne) := hr _ hdue
  have hnd := hD.nodup
  k_steps
  · exfalso; omega
  rename Fr g' _ _ _ => Fl
  rename News g' _ _ _ => Nl
  have Nl' : News g' L' _ [(a, ilObj ns items n), (ns, nsObj w t1 t2 b d), (d, od)] := fun p hp => Nl p (.tail _ (.tail _ hp))
  have hd0 : ∀ b o, g'.get? b = some o → @Ne Nat b d := fun b o c e' => by have := (Nl' (d, od) (.tail _ (.tail _ (.head _)))).2.2; rw [← show b = d from e', c] at this; cases this
  refine loopEnum (lp := []) (news := [(a, ilObj ns items n), (ns, nsObj w t1 t2 b d), (d, od)])
    (fun i m₁ news₁ => ∃ u u' b' d' od', m₁ = (fun y => if y = Str.ofString "value" then u else if y = Str.ofString "place" then u' else List.lookup y [(Str.ofString "told", Value.ref a), (Str.ofString "due", Value.ref e)].reverse) ∧
      news₁ = [(a, ilObj ns items n), (ns, nsObj w t1 t2 b' d'), (d', od')] ∧ DictI pg w P od' ds ∧ @Ne Nat a d' ∧ @Ne Nat ns d' ∧ (d' == sysModules) = false ∧ (∀ b o, g'.get? b = some o → @Ne Nat b d')) rfl
    (fun Q' hQ => call_enumerate_list ⟨_, Fl.keep _ _ hdg, rfl, ne, rfl⟩ hQ) (.inr ⟨rfl, hdg⟩) rfl Fl Nl'
    ⟨_, _, _, _, _, (map_start _ _).trans (congrArg (fun f => fun y => if y = Str.ofString "value" then _ else f y) (map_start _ _)), rfl, hD, h2, h3, lo, hd0⟩ ?_ ?_
  · rintro i t v m₁ news₁ h tk oE oI hv ⟨u, u', b', d', od', rfl, rfl, hD', h2', h3', lo', hd'⟩ F₁ N₁ hne
    obtain ⟨y, hyi, hy⟩ := hV.get i v hv
    have hlt : i < ds.length := (List.getElem?_eq_some_iff.mp hyi).1
    have hit : i < items.length := by omega
    obtain ⟨y', hyi', hy'⟩ := hI.get i items[i] (List.getElem?_eq_getElem hit)
    have hxi := List.getElem?_eq_getElem hit
    rw [hyi] at hyi'
    cases hyi'
    have oky := ok y (List.mem_of_getElem? hyi)
    generalize items[i] = u0 at hy' hxi
    simp only [List.nil_append] at N₁
    have N₁ := il_first N₁
    simp only [List.nil_append] at hne
    have dis' := dis_of (o1 := oE) (o2 := oI) hne
    have hne1 := hne _ (.head _)
    have hne2 := hne _ (.tail _ (.head _))
    clear hne Fl Nl Nl'
    dsimp only at N₁ hne1 hne2 F₁
    rw [map_pair] at F₁
    simp only [List.cons_append, List.nil_append] at N₁
    show wpAny _ _ _ _ _ _
    k_fold
    k_steps
    · exfalso; omega
    · rename Fr g' _ _ _ => F2
      rename News g' _ _ _ => N2
      rename ∀ q ∈ [_, _], _ => lq
      refine TurnEnd2.intro F2 (il_last N2) (fun p hp => ?_) ⟨_, _, _, _, _, rfl, rfl, by assumption, by assumption, by assumption, by assumption, by assumption⟩
      simp only [List.mem_cons, List.not_mem_nil, or_false] at hp
      rcases hp with hp | hp | hp <;> subst hp
      · exact hne1
      · exact hne2
      · exact ⟨(lq _ (.head _)).symm, (lq _ (.tail _ (.head _))).symm⟩
  · rintro h2 tk m2 news2 F2 N2 ⟨u, u', b', d', od', rfl, rfl, hD', h2', h3', lo', hd'⟩
    simp only [List.nil_append] at N2
    clear Fl Nl Nl'
    dsimp only
    k_steps
    (try dsimp only [List.append])
    rename Fr g' _ _ _ => F2
    k_dflt (refine' values_K ?kB ?kF ?kX ?kT ?khf ?khk ?kr ?ku ?kN ?_; (case kB => k_asm); (case kF => k_asm); (case kX => k_asm); (case kT => k_asm); (case khf => exact rfl); (case khk => exact rfl); (case kr => ((try dsimp only [topA, Around.deeper]); omega)); (case ku => ((try dsimp only [topA, Around.deeper]); omega)); (case kN => exact N2); k_whole)
    intro h3 tk3 l nl vs tups F3 N3 df3 dl3 ct3 V3
    (try dsimp only)
    have hPg3 : TupsIn P g' := hPg
    have ha3 : ∀ q ∈ (l, W.listOf vs.toArray nl) :: tups, @Ne Nat a q.1 := fun q hq => (df3 q hq _ (.head _)).symm
    have hn3 : ∀ q ∈ (l, W.listOf vs.toArray nl) :: tups, @Ne Nat ns q.1 := fun q hq => (df3 q hq _ (.tail _ (.head _))).symm
    have hd3 : ∀ q ∈ (l, W.listOf vs.toArray nl) :: tups, @Ne Nat d' q.1 := fun q hq => (df3 q hq _ (.tail _ (.tail _ (.head _)))).symm
    have hV3 : Dens w (fun b o => P b o ∨ (b, o) ∈ tups) dv ds := hV.mono fun _ _ h _ => .inl h
    refine loopSeq (lp := [(l, W.listOf vs.toArray nl)]) (news := [(a, ilObj ns items n), (ns, nsObj w t1 t2 b' d'), (d', od')] ++ tups)
      (fun i m₁ news₁ => ∃ u0 b' d' od', m₁ = (fun y => if y = Str.ofString "value" then u0 else if y = Str.ofString "place" then u' else List.lookup y [(Str.ofString "told", Value.ref a), (Str.ofString "due", Value.ref e)].reverse) ∧
        news₁ = [(a, ilObj ns items n), (ns, nsObj w t1 t2 b' d'), (d', od')] ++ tups ∧ DictI pg w P od' ds ∧ @Ne Nat a d' ∧ @Ne Nat ns d' ∧ (d' == sysModules) = false ∧ (∀ b o, g'.get? b = some o → @Ne Nat b d') ∧ (∀ q ∈ (l, W.listOf vs.toArray nl) :: tups, @Ne Nat d' q.1) ∧ (0 < i → b' = true)) rfl
      (fun Q' hQ => wpAny_pyIter_list ⟨_, (N3 (l, _) (.head _)).1, rfl, nl, rfl⟩ hQ) (.inl rfl) rfl F3 (il_vals N3)
      ⟨_, _, _, _, rfl, rfl, hD', h2', h3', lo', hd', hd3, fun q => absurd q (Nat.lt_irrefl _)⟩ ?_ ?_
    · rintro i v m₁ news₁ h tk oI hv ⟨u0, b'', d'', od'', rfl, rfl, hD4, h24, h34, lo4, hd4, hdq, _⟩ F₁ N₁ hne hnl
      obtain ⟨x, hxi, hx0⟩ := V3.get i v hv
      have hx : DenP pg w (fun b o => P b o ∨ (b, o) ∈ tups) v x := hx0.mono fun _ _ h _ => .inr h
      have okx := ok12 x (List.mem_of_getElem? hxi)
      have N₁ := il_front N₁
      have hneA := hne _ (.head _)
      have hneB := hne _ (.tail _ (.head _))
      have hneC := hne _ (.tail _ (.tail _ (.head _)))
      have hneT : ∀ q ∈ tups, @Ne Nat q.1 h3.objs.size := fun q hq => hne q (.tail _ (.tail _ (.tail _ hq)))
      have hPI : PIn (fun b o => P b o ∨ (b, o) ∈ tups) g' ((h3.objs.size, oI) :: (l, W.listOf vs.toArray nl) :: tups) := fun b o q c => q.elim (fun z => .inl (hPg3 b o z c)) fun z => .inr (.tail _ (.tail _ z))
      have dis' := dis_two (fp := [(a, ilObj ns items n), (ns, nsObj w t1 t2 b'' d''), (d'', od'')]) (rest := (l, W.listOf vs.toArray nl) :: tups) (oI := oI) (fun p hp => by
          simp only [List.mem_cons, List.not_mem_nil, or_false] at hp
          rcases hp with hp | hp | hp <;> subst hp
          · exact hneA
          · exact hneB
          · exact hneC) (fun p hp => by
          simp only [List.mem_cons, List.not_mem_nil, or_false] at hp
          rcases hp with hp | hp | hp <;> subst hp
          · exact ha3
          · exact hn3
          · exact hdq)
      have hnl1 := hnl _ (.head _)
      clear hne hnl hneC F2 N2 N3 F3 hPg hV hD hD'
      dsimp only at N₁ hneA hneB hneT hPI dis' hnl1 F₁
      rw [map_one] at F₁
      simp only [List.cons_append, List.nil_append] at N₁
      show wpAny _ _ _ _ _ _
      k_fold
      k_steps
      · rename (_ != _) = true => hb; simp at hb
      · rename Fr g' _ _ _ => F5
        rename News g' _ _ _ => N5
        rename ∀ q ∈ (h3.objs.size, oI) :: _, _ => lq
        refine TurnEnd.intro F5 (il_back N5) (fun p hp => ?_) ⟨_, _, _, _, rfl, rfl, by assumption, by assumption, by assumption, by assumption, by assumption, fun q hq => (lq q (.tail _ hq)).symm, fun _ => rfl⟩
        simp only [List.cons_append, List.nil_append, List.mem_cons] at hp
        rcases hp with hp | hp | hp | hp
        · subst hp; exact hneA
        · subst hp; exact hneB
        · subst hp; exact (lq _ (.head _)).symm
        · exact hneT p hp
    · rintro h4 tk4 m4 news4 F4 N4 ⟨u0, b'', d'', od'', rfl, rfl, hD4, h24, h34, lo4, hd4, hdq, hb4⟩ _
      have hvl : 0 < vs.length := by rw [V3.length]; decide
      obtain rfl := hb4 hvl
      clear F2 N2 N3 F3
      dsimp only
      k_steps
      rename Fr g' _ _ _ => F5
      rename News g' _ _ _ => N5
      exact LeaveL.intro F5 (fun p hp => N5 p (by simp only [List.cons_append, List.nil_append, List.mem_cons, List.not_mem_nil, or_false] at hp ⊢; rcases hp with h | h | h <;> simp [h])) fun F₁ N₁ _ => ret _ _ _ _ F₁ N₁ hD4 (fun q hq => hd4 _ _ (hr q hq)) h24 h34 lo4
end Mine

-- part MQ
namespace Mine
-- the walker keeps the rules that it found as long as their number stays: a step under no local rule makes it look anew
theorem anewMQ {w : PySem.World} {A : PySem.Around} {E : PySem.Value → PySem.Shared → Prop} {Q : PySem.Flow → PySem.Shared → Prop} {s : PySem.Shared} {env : PySem.Env} (h : PySem.wpAny (PySem.model PySem.Challenge.rw_aa5017_01.row.prog w) A (PySem.execs [] env) Q E s) :
    PySem.wpAny (PySem.model PySem.Challenge.rw_aa5017_01.row.prog w) A (PySem.execs [] env) Q E s := by
  first | (walk1; fail) | exact h
end Mine
open PySem PySem.W PyProof.Rows PySem.Calls PySem.Builtin PySem.Builtin.ObjectAttr
set_option Elab.async false
set_option maxRecDepth 100000
namespace Mine
/-- where the walk halts -/
def Stop (p : Prop) : Prop := p
theorem Stop.intro {p : Prop} (h : Stop p) : p := h
/-- a statement that goes on, and what it leaves -/
def Then (h₀ : Heap) (L : Addr) (s : Shared) (J : (Str → Option Value) → Led → Prop) (f : Flow) (s' : Shared) : Prop :=
  f = .next ∧ ∃ h' tk m news, s' = { s with heap := h', toks := tk } ∧ Fr h₀ L h' m ∧ News h₀ L h' news ∧ J m news
theorem Then.intro {h₀ : Heap} {L : Addr} {s : Shared} {J : (Str → Option Value) → Led → Prop} {h' : Heap} {tk : Nat} {m : Str → Option Value} {news : Led} (F : Fr h₀ L h' m) (N : News h₀ L h' news) (j : J m news) :
    Then h₀ L s J .next { s with heap := h', toks := tk } := ⟨rfl, h', tk, m, news, rfl, F, N, j⟩
theorem execs_then {M : Model} {A : Around} {E : Value → Shared → Prop} {st : Stmt} {rest : List Stmt} {env : Env} {Q : Flow → Shared → Prop} {s : Shared} {h₀ : Heap} {L : Addr} (J : (Str → Option Value) → Led → Prop)
    (h : wpAny M A (exec st env) (Then h₀ L s J) E s) (k : ∀ h' tk m news, Fr h₀ L h' m → News h₀ L h' news → J m news → wpAny M A (execs rest env) Q E { s with heap := h', toks := tk }) : wpAny M A (execs (st :: rest) env) Q E s :=
  wpAny_execs_cons (wpAny_mono h (fun f s' p => by obtain ⟨rfl, h', tk, m, news, rfl, F, N, j⟩ := p; exact k h' tk m news F N j) fun _ _ e => e)

section
variable {prog : Program} {w : World} {A : Around} {E : Value → Shared → Prop} {s : Shared} {env : Env} {h₀ : Heap} {x : Str} {body : List Stmt} {Q : Flow → Shared → Prop} {m : Str → Option Value} {news : Led} {r : Addr}
theorem loopRange (J : Nat → (Str → Option Value) → Led → Prop) (hh : A.handled = none) {b : Int} {t u v : Tok} (n : Nat) (hr : IsRange s.heap r 0 b 1 t u v) (hsm : Builtin.Range.small 0 b 1 = true) (hn : Builtin.Range.rangeSize 0 b 1 = (n : Int))
    (F : Fr h₀ env.locals s.heap m) (N : News h₀ env.locals s.heap news) (h0 : J 0 m news)
    (turn : ∀ i t m₁ news₁ h tk oI, i < n → J i m₁ news₁ → Fr h₀ env.locals h (fun y => if y = x then some (.int (i : Nat) t) else m₁ y) → News h₀ env.locals h ((s.heap.objs.size, oI) :: news₁) → (∀ p ∈ news₁, @Ne Nat p.1 s.heap.objs.size) →
      wpAny (model prog w) A (execs body env) (TurnEnd h₀ env.locals s.heap.objs.size [(s.heap.objs.size, oI)] (J (i + 1)) { s with heap := h, toks := tk } Q) E { s with heap := h, toks := tk })
    (done : ∀ h' tk m' news', Fr h₀ env.locals h' m' → News h₀ env.locals h' news' → J n m' news' → (∀ p ∈ news', @Ne Nat p.1 s.heap.objs.size) → Q .next { s with heap := h', toks := tk }) :
    wpAny (model prog w) A (pyIter (.ref r)) (fun it s₂ => LoopAtV prog w A h₀ env x body Q E it s₂) E s := by
  have hI0 : h₀.get? s.heap.objs.size = none := by
    cases q : h₀.get? s.heap.objs.size with
    | none => rfl
    | some o => exact absurd (Heap.lt_size (F.keep _ _ q)) (Nat.lt_irrefl _)
  have hfree : ∀ p ∈ news, p.1 ≠ s.heap.objs.size := fun p hp => Nat.ne_of_lt (Heap.lt_size (N p hp).1)
  refine wpAny_pyIter_range hr hsm ?_
  refine ⟨s.heap.objs.size, [s.heap.objs.size], [s.heap.objs.size], n, (fun i v => ∃ t, v = .int (0 + ((i : Nat) : Int)) t), (fun i h => IsRangeIter h s.heap.objs.size (0 + ((i : Nat) : Int) * 1) ((n : Int) - (i : Nat)) 1), m, news, fun i m₁ n₁ => J i m₁ n₁ ∧ ∀ p ∈ n₁, @Ne Nat p.1 s.heap.objs.size, rfl, PyProof.Rows.LCg.range_walks (prog := prog) (w := w) hh 0 n, ?_, ?_, ?_, ?_,
    F.push _, (fun p hp => ⟨Heap.get?_push_of_some _ (N p hp).1, (N p hp).2⟩), ⟨h0, fun p hp => hfree p hp⟩, ?_, ?_⟩
  · intro hm
    exact absurd F.ns.lt ((List.mem_singleton.mp hm) ▸ Nat.lt_irrefl _)
  · intro b hb
    rw [List.mem_singleton.mp hb]; exact hI0
  · intro p hp hI
    exact hfree p hp (List.mem_singleton.mp hI)
  · dsimp only
    rw [hn]
    simpa using Heap.get?_push_size _ rfl
  · rintro i v m₁ n₁ s₁ own ⟨hh', tk', rfl⟩ hin hP ⟨hJ, hn₁⟩ _ hown hget hall hst F₁ N₁
    obtain ⟨t, rfl⟩ := hP
    rw [Int.zero_add] at F₁
    obtain ⟨oI, hoI⟩ : ∃ o, hh'.get? s.heap.objs.size = some o := ⟨_, hst⟩
    have memI : (s.heap.objs.size, oI) ∈ own := hall _ (by simp) hI0 _ hoI
    have hfp : ∀ p ∈ own, p = (s.heap.objs.size, oI) := by
      intro p hp
      have hg := hget p hp
      have e := List.mem_singleton.mp (hown p hp)
      rw [e, hoI] at hg
      exact Prod.ext e (Option.some.inj hg).symm
    refine wpAny_mono (turn i t m₁ n₁ hh' tk' oI hin hJ F₁ (fun p hp => ?_) hn₁) (fun f s₂ p => ?_) fun _ _ e => e
    · rcases List.mem_cons.mp hp with e | hp
      · rw [e]; exact N₁ _ (List.mem_append_left _ memI)
      · exact N₁ p (List.mem_append_right _ hp)
    · have fin : (∃ h' tk m₂ news₂, s₂ = { s with heap := h', toks := tk } ∧ Fr h₀ env.locals h' m₂ ∧ News h₀ env.locals h' ([(s.heap.objs.size, oI)] ++ news₂) ∧ (∀ p ∈ news₂, @Ne Nat p.1 s.heap.objs.size) ∧ J (i + 1) m₂ news₂) →
          LoopStepU h₀ env.locals [s.heap.objs.size] own (fun m₁ n₁ => J (i + 1) m₁ n₁ ∧ ∀ p ∈ n₁, @Ne Nat p.1 s.heap.objs.size) { s with heap := hh', toks := tk' } .next s₂ := by
        rintro ⟨h', tk, m₂, news₂, e, F', N', hI, hJ'⟩
        refine ⟨rfl, h', tk, m₂, news₂, e, F', fun p hp => ?_, fun p hp hq => hI p hp (List.mem_singleton.mp hq), hJ', hI⟩
        rcases List.mem_append.mp hp with hp | hp
        · rw [hfp p hp]; exact N' _ (by simp)
        · exact N' p (by simp only [List.cons_append, List.mem_cons]; exact .inr hp)
      cases f with
      | ret v => exact .ret p
      | brk => exact .brk p
      | next => exact .next (fin p)
      | cont => exact .cont (fin p)
  · rintro h' tk m' n' F' N' _ ⟨hJ, hI⟩
    exact done h' tk m' n' F' N' hJ hI
end

theorem range_K {w : World} {A : Around} {E : Value → Shared → Prop} {s : Shared} {h₀ : Heap} {L : Addr} {m : Str → Option Value} {news : Led} {n : Int} {t : Tok} {Q : Value → Shared → Prop} (F : Fr h₀ L s.heap m) (N : News h₀ L s.heap news)
    (h : ∀ r h' tk t u v, Fr h₀ L h' m → News h₀ L h' news → IsRange h' r 0 n 1 t u v → Q (.ref r) { s with heap := h', toks := tk }) : wpAny (model pg w) A (call (.type "range") [.int n t]) Q E s := by
  refine call_range_1 ?_
  refine h _ _ _ _ _ _ (F.push _) (fun p hp => ⟨Heap.get?_push_of_some _ (N p hp).1, (N p hp).2⟩) (Heap.get?_push_size _ rfl)
section
variable {w : World} {A : Around} {E : Value → Shared → Prop} {s : Shared} {l : Addr} {vs : List Value} {c : Nat} {value slice : PySem.Expr}
/-- an item of a list at an open place -/
theorem item_L {k : Int} {t : Tok} {Q : Value → Shared → Prop} (hl : s.heap.get? l = some (W.listOf vs.toArray c)) (h0 : 0 ≤ k) (h1 : k < vs.length) (hz : vs.length ≤ 1000) (h : ∀ (j : Nat) v, (j : Int) = k → vs[j]? = some v → Q v s)
    (hs : subscripted slice false (.ref l) (.int k t) = operate [.ref l, .int k t] (getItem (.ref l) (.int k t))) :
    wpAny (model pg w) A (subscriptTail value slice (.ref l) (.int k t)) Q E s := by
  have hlt : k.toNat < vs.length := by omega
  exact tail_any (T := "list") ⟨_, hl, rfl⟩ slot_list_getitem.lookup (wpAny_getItem_list (x := vs[k.toNat]) ⟨_, hl, rfl, c, rfl⟩ h0 (by omega) (by simp [hlt]) (h _ _ (by omega) (List.getElem?_eq_getElem hlt))) hs
/-- an item of a list of data at an open place -/
theorem item_V {P : Addr → Obj → Prop} {ds : List Dt} {k : Int} {t : Tok} {Q : Value → Shared → Prop} (hl : s.heap.get? l = some (W.listOf vs.toArray c)) (V : Dens w P vs ds) (h0 : 0 ≤ k) (h1 : k < ds.length) (hz : ds.length ≤ 1000)
    (h : ∀ (j : Nat) v x, (j : Int) = k → x ∈ ds → DenP pg w P v x → Q v s)
    (hs : subscripted slice false (.ref l) (.int k t) = operate [.ref l, .int k t] (getItem (.ref l) (.int k t))) :
    wpAny (model pg w) A (subscriptTail value slice (.ref l) (.int k t)) Q E s :=
  item_L hl h0 (by rw [V.length]; exact h1) (by rw [V.length]; exact hz) (fun j v hj hv => by
    obtain ⟨x, hx, hxd⟩ := V.get j v hv
    exact h j v x hj (List.mem_of_getElem? hx) hxd) hs
end
end Mine

-- part ZA
namespace Mine
-- the walker keeps the rules that it found as long as their number stays: a step under no local rule makes it look anew
theorem anewZA {w : PySem.World} {A : PySem.Around} {E : PySem.Value → PySem.Shared → Prop} {Q : PySem.Flow → PySem.Shared → Prop} {s : PySem.Shared} {env : PySem.Env} (h : PySem.wpAny (PySem.model PySem.Challenge.rw_aa5017_01.row.prog w) A (PySem.execs [] env) Q E s) :
    PySem.wpAny (PySem.model PySem.Challenge.rw_aa5017_01.row.prog w) A (PySem.execs [] env) Q E s := by
  first | (walk1; fail) | exact h
end Mine
open PySem PySem.W PyProof.Rows PySem.Calls PySem.Builtin PySem.Builtin.ObjectAttr
set_option Elab.async false
set_option maxRecDepth 100000
namespace Mine
/-- no address stands twice -/
def Dj (l : Led) : Prop := l.Pairwise fun p q => @Ne Nat p.1 q.1
theorem Dj.perm {l l' : Led} (h : Dj l) (p : l.Perm l') : Dj l' := (p.pairwise_iff (fun h => h.symm)).mp h
theorem Dj.cons {p : Addr × Obj} {l : Led} (h : Dj l) (k : ∀ q ∈ l, @Ne Nat p.1 q.1) : Dj (p :: l) := List.pairwise_cons.mpr ⟨k, h⟩
theorem Dj.head {p : Addr × Obj} {l : Led} (h : Dj (p :: l)) : ∀ q ∈ l, @Ne Nat p.1 q.1 := (List.pairwise_cons.mp h).1
theorem Dj.tail {p : Addr × Obj} {l : Led} (h : Dj (p :: l)) : Dj l := (List.pairwise_cons.mp h).2
theorem Dj.left {l r : Led} (h : Dj (l ++ r)) : Dj l := (List.pairwise_append.mp h).1
theorem Dj.right {l r : Led} (h : Dj (l ++ r)) : Dj r := (List.pairwise_append.mp h).2.1
theorem Dj.dis {l r : Led} (h : Dj (l ++ r)) : ∀ p ∈ l, ∀ q ∈ r, @Ne Nat p.1 q.1 := (List.pairwise_append.mp h).2.2
theorem Dj.app {l r : Led} (h1 : Dj l) (h2 : Dj r) (h3 : ∀ p ∈ l, ∀ q ∈ r, @Ne Nat p.1 q.1) : Dj (l ++ r) := List.pairwise_append.mpr ⟨h1, h2, h3⟩
theorem Dj.nil : Dj [] := List.Pairwise.nil
theorem Dj.sub {l r : Led} (h : Dj l) (k : List.Sublist r l) : Dj r := List.Pairwise.sublist k h
theorem permN {h₀ h : Heap} {L : Addr} {l l' : Led} (N : News h₀ L h l) (p : l.Perm l') : News h₀ L h l' := fun q hq => N q (p.mem_iff.mpr hq)
theorem subN {h₀ h : Heap} {L : Addr} {l l' : Led} (N : News h₀ L h l) (p : ∀ q ∈ l', q ∈ l) : News h₀ L h l' := fun q hq => N q (p q hq)
/-- the list that knows its places, as it stands in the ledger -/
def IL (w : World) (P : Addr → Obj → Prop) (a : Addr) (fp : Led) (ds : List Dt) : Prop :=
  ∃ ns d items n t1 t2 b od, fp = [(a, ilObj ns items n), (ns, nsObj w t1 t2 b d), (d, od)] ∧ Dens w P items ds ∧ DictI pg w P od ds ∧ (d == sysModules) = false
theorem IL.mono {w : World} {P P' : Addr → Obj → Prop} {a : Addr} {fp : Led} {ds : List Dt} (h : IL w P a fp ds) (k : ∀ b o, P b o → o.cls = .type "tuple" → P' b o) : IL w P' a fp ds := by
  obtain ⟨ns, d, items, n, t1, t2, b, od, e, hI, hD, lo⟩ := h
  exact ⟨ns, d, items, n, t1, t2, b, od, e, hI.mono k, hD.mono k, lo⟩
theorem IL.nodup {w : World} {P : Addr → Obj → Prop} {a : Addr} {fp : Led} {ds : List Dt} (h : IL w P a fp ds) : ds.Nodup := by
  obtain ⟨ns, d, items, n, t1, t2, b, od, e, hI, hD, lo⟩ := h
  exact hD.nodup
theorem dj_three {x y z : Addr × Obj} {rest : Led} (h : Dj ([x, y, z] ++ rest)) : @Ne Nat x.1 y.1 ∧ @Ne Nat x.1 z.1 ∧ @Ne Nat y.1 z.1 ∧ (∀ q ∈ [x, y, z], ∀ r ∈ rest, q.1 ≠ r.1) ∧ Dj rest :=
  ⟨h.left.head _ (.head _), h.left.head _ (.tail _ (.head _)), h.left.tail.head _ (.head _), h.dis, h.right⟩
theorem dj_same {x y z x' y' z' : Addr × Obj} {rest : Led} (h : Dj ([x, y, z] ++ rest)) (e1 : x'.1 = x.1) (e2 : y'.1 = y.1) (e3 : z'.1 = z.1) : Dj ([x', y', z'] ++ rest) := by
  have : ([x', y', z'] ++ rest).map (·.1) = ([x, y, z] ++ rest).map (·.1) := by simp [e1, e2, e3]
  have k : (([x, y, z] ++ rest).map (·.1)).Pairwise (fun a b => @Ne Nat a b) := List.pairwise_map.mpr h
  rw [← this] at k
  exact List.pairwise_map.mp k
theorem dj_new1 {x y z z' : Addr × Obj} {rest : Led} (h : Dj ([x, y, z] ++ rest)) (k : ∀ q ∈ rest, @Ne Nat q.1 z'.1) (h1 : @Ne Nat x.1 z'.1) (h2 : @Ne Nat y.1 z'.1) : Dj ([x, y, z'] ++ rest) := by
  obtain ⟨a, b, c, d, e⟩ := dj_three h
  refine Dj.app (Dj.cons (Dj.cons (Dj.cons Dj.nil ?_) ?_) ?_) e ?_
  · intro q hq; cases hq
  · intro q hq; rw [List.mem_singleton.mp hq]; exact h2
  · intro q hq
    rcases List.mem_cons.mp hq with e | hq
    · rw [e]; exact a
    · rw [List.mem_singleton.mp hq]; exact h1
  · intro q hq r hr
    simp only [List.mem_cons, List.not_mem_nil, or_false] at hq
    rcases hq with hq | hq | hq <;> subst hq
    · exact d _ (.head _) r hr
    · exact d _ (.tail _ (.head _)) r hr
    · exact (k r hr).symm
theorem dj_new {x y z y' z' : Addr × Obj} {rest : Led} (h : Dj ([x, y, z] ++ rest)) (k : ∀ q ∈ rest, @Ne Nat q.1 z'.1) (h1 : @Ne Nat x.1 z'.1) (h2 : @Ne Nat y'.1 z'.1) (e : y'.1 = y.1) : Dj ([x, y', z'] ++ rest) :=
  dj_new1 (dj_same (y' := y') h rfl e rfl) k h1 h2
theorem dj_upd {x x' : Addr × Obj} {rest : Led} (h : Dj (x :: rest)) (e : x'.1 = x.1) : Dj (x' :: rest) := Dj.cons h.tail fun q hq => by rw [e]; exact h.head q hq

section
variable {w : World} {A₀ : Around} {dp un : Nat} {gd : Option (List Code)} {s : Shared} {h₀ : Heap} {L : Addr} {m : Str → Option Value} {rest news fp : Led}
    {mean : ExcName → Option Value} {mg mb : Str → Option Value} {P : Addr → Obj → Prop} {a : Addr} {ds : List Dt} {v : Value} {x : Dt} {Q E : Value → Shared → Prop}
theorem append_C {base : Heap} {outer : List Env} {env : Env} (C : IL w P a fp ds) (B : Below A₀ base outer h₀) (F : Fr h₀ L s.heap m) (X₀ : (hd.heap_39 w.params).In h₀) (T : TP mean mg mb h₀) (hf : env.frame = some L) (hke : env.scope.kind = .function)
    (hroom : dp + 9 < recursionLimit) (hu : un + 90 < cLine) (N : News h₀ L s.heap (fp ++ rest)) (J : Dj (fp ++ rest)) (hP : PIn P h₀ rest) (hx : DenP pg w P v x) (hlen : ds.length ≤ 1000)
    (ret : ∀ h' tk' fp', Fr h₀ L h' m → News h₀ L h' (fp' ++ rest) → Dj (fp' ++ rest) → IL w P a fp' (addD ds x) → Q .none { s with heap := h', toks := tk' }) :
    wpAny (model pg w) (topA dp un gd env outer) (call (.ref 58) [.ref a, v]) Q E s := by
  obtain ⟨ns, d, items, n, t1, t2, b, od, rfl, hI, hD, lo⟩ := C
  obtain ⟨h1, h2, h3, dis, _⟩ := dj_three J
  exact append_K B F X₀ T hf hke hroom hu N dis h1 h2 h3 hP hI hD hx lo hlen fun h' tk' items' n' od' F' N' hI' hD' => ret h' tk' _ F' N' (dj_same J rfl rfl rfl) ⟨_, _, _, _, _, _, _, _, rfl, hI', hD', lo⟩
theorem add_C {base : Heap} {outer : List Env} {env : Env} (C : IL w P a fp ds) (B : Below A₀ base outer h₀) (F : Fr h₀ L s.heap m) (X₀ : (hd.heap_39 w.params).In h₀) (T : TP mean mg mb h₀) (hf : env.frame = some L) (hke : env.scope.kind = .function)
    (hroom : dp + 19 < recursionLimit) (hu : un + 190 < cLine) (N : News h₀ L s.heap (fp ++ rest)) (J : Dj (fp ++ rest)) (hP : PIn P h₀ rest) (hx : DenP pg w P v x) (hlen : ds.length ≤ 1000)
    (ret : ∀ h' tk' fp' (i : Nat) t, Fr h₀ L h' m → News h₀ L h' (fp' ++ rest) → Dj (fp' ++ rest) → IL w P a fp' (addD ds x) → (addD ds x)[i]? = some x → Q (.int i t) { s with heap := h', toks := tk' }) :
    wpAny (model pg w) (topA dp un gd env outer) (call (.ref 65) [.ref a, v]) Q E s := by
  obtain ⟨ns, d, items, n, t1, t2, b, od, rfl, hI, hD, lo⟩ := C
  obtain ⟨h1, h2, h3, dis, _⟩ := dj_three J
  exact add_K B F X₀ T hf hke hroom hu N dis h1 h2 h3 hP hI hD hx lo hlen fun h' tk' items' n' od' i t F' N' hI' hD' hi => ret h' tk' _ i t F' N' (dj_same J rfl rfl rfl) ⟨_, _, _, _, _, _, _, _, rfl, hI', hD', lo⟩ hi
theorem inIl_C {A : Around} {base : Heap} {outer : List Env} {env : Env} (C : IL w P a fp ds) (hA : A = topA dp un gd env outer) (B : Below A₀ base outer h₀) (F : Fr h₀ L s.heap m) (X₀ : (hd.heap_39 w.params).In h₀) (T : TP mean mg mb h₀) (hf : env.frame = some L) (hke : env.scope.kind = .function)
    (hroom : dp + 19 < recursionLimit) (hu : un + 190 < cLine) (N : News h₀ L s.heap (fp ++ rest)) (J : Dj (fp ++ rest)) (hP : PIn P h₀ rest) (hx : DenP pg w P v x) (hlen : ds.length ≤ 1000)
    (ret : ∀ h' tk' fp', Fr h₀ L h' m → News h₀ L h' (fp' ++ rest) → Dj (fp' ++ rest) → IL w P a fp' ds → Q (.bool (inD x ds)) { s with heap := h', toks := tk' }) :
    wpAny (model pg w) A (compareOp .In v (.ref a)) Q E s := by
  obtain ⟨ns, d, items, n, t1, t2, b, od, rfl, hI, hD, lo⟩ := C
  obtain ⟨h1, h2, h3, dis, _⟩ := dj_three J
  exact inIl_K hA B F X₀ T hf hke hroom hu N dis h1 h2 h3 hP (fun _ _ h _ => h) hI hD hx lo hlen fun h' tk' d' od' F' N' hD' k1 _ k2 k3 lo' => ret h' tk' _ F' N' (dj_new J k1 k2 k3 rfl) ⟨_, _, _, _, _, _, _, _, rfl, hI, hD', lo'⟩
theorem place_C {ea : Addr} {cn : Str} {cs : Scope} {ccd : Value} (C : IL w P a fp ds) (B : Below A₀ h₀ [] h₀) (F : Fr h₀ L s.heap m) (X₀ : (hd.heap_39 w.params).In h₀) (T : TP mean mg mb h₀) (hck : cs.kind = .function)
    (hroom : dp + 39 < recursionLimit) (hu : un + 390 < cLine) (N : News h₀ L s.heap (fp ++ rest)) (J : Dj (fp ++ rest)) (hP : PIn P h₀ rest) (hx : DenP pg w P v x) (hlen : ds.length ≤ 1000)
    (ret : ∀ h' tk' fp' (r : Int) t, Fr h₀ L h' m → News h₀ L h' (fp' ++ rest) → Dj (fp' ++ rest) → IL w P a fp' ds → ((∃ i : Nat, r = i ∧ ds[i]? = some x) ∨ (r = -1 ∧ inD x ds = false)) → Q (.int r t) { s with heap := h', toks := tk' }) :
    wpAny (model pg w) (topA dp un gd (envOf cn cs L ea ccd) []) (call (.ref 91) [.ref a, v]) Q E s := by
  obtain ⟨ns, d, items, n, t1, t2, b, od, rfl, hI, hD, lo⟩ := C
  obtain ⟨h1, h2, h3, dis, _⟩ := dj_three J
  exact place_K B F X₀ T hck hroom hu N dis h1 h2 h3 hP hI hD hx lo hlen fun h' tk' d' od' r t F' N' hD' k1 k2 k3 lo' hr => ret h' tk' _ r t F' N' (dj_new J k1 k2 k3 rfl) ⟨_, _, _, _, _, _, _, _, rfl, hI, hD', lo'⟩ hr
theorem so_C {base : Heap} {outer : List Env} {env : Env} {e : Addr} {dv : List Value} {ne : Nat} (C : IL w P a fp ds) (hV : Dens w P dv ds) (hdue : (e, W.listOf dv.toArray ne) ∈ rest) (ok : ∀ x ∈ ds, okD x)
    (B : Below A₀ base outer h₀) (F : Fr h₀ L s.heap m) (X₀ : (hd.heap_39 w.params).In h₀) (T : TP mean mg mb h₀) (hf : env.frame = some L) (hke : env.scope.kind = .function)
    (hroom : dp + 49 < recursionLimit) (hu : un + 490 < cLine) (N : News h₀ L s.heap (fp ++ rest)) (J : Dj (fp ++ rest)) (hP : PIn P h₀ rest) (hlen : ds.length ≤ 1000)
    (ret : ∀ h' tk' fp', Fr h₀ L h' m → News h₀ L h' (fp' ++ rest) → Dj (fp' ++ rest) → IL w P a fp' ds → Q (.bool true) { s with heap := h', toks := tk' }) :
    wpAny (model pg w) (topA dp un gd env outer) (call (.ref 84) [.ref a, .ref e]) Q E s := by
  obtain ⟨ns, d, items, n, t1, t2, b, od, rfl, hI, hD, lo⟩ := C
  obtain ⟨h1, h2, h3, dis, _⟩ := dj_three J
  exact so_K B F X₀ T hf hke hroom hu N dis h1 h2 h3 hP hI hV hdue hD lo hlen ok fun h' tk' d' od' F' N' hD' k1 k2 k3 lo' => ret h' tk' _ F' N' (dj_new J k1 k2 k3 rfl) ⟨_, _, _, _, _, _, _, _, rfl, hI, hD', lo'⟩
theorem dj_made {x y z : Addr × Obj} (J : Dj rest) (k : ∀ q ∈ rest, @Ne Nat q.1 x.1 ∧ @Ne Nat q.1 y.1 ∧ @Ne Nat q.1 z.1) (h1 : @Ne Nat x.1 y.1) (h2 : @Ne Nat x.1 z.1) (h3 : @Ne Nat y.1 z.1) : Dj ([x, y, z] ++ rest) := by
  refine Dj.cons (Dj.cons (Dj.cons J fun q hq => (k q hq).2.2.symm) ?_) ?_
  · intro q hq
    rcases List.mem_cons.mp hq with e | hq
    · rw [e]; exact h3
    · exact (k q hq).2.1.symm
  · intro q hq
    rcases List.mem_cons.mp hq with e | hq
    · rw [e]; exact h1
    · rcases List.mem_cons.mp hq with e | hq
      · rw [e]; exact h2
      · exact (k q hq).1.symm
theorem new0_C {base : Heap} {outer : List Env} {env : Env} (P : Addr → Obj → Prop) (B : Below A₀ base outer h₀) (F : Fr h₀ L s.heap m) (X₀ : (hd.heap_39 w.params).In h₀) (T : TP mean mg mb h₀) (hf : env.frame = some L) (hke : env.scope.kind = .function)
    (hroom : dp + 19 < recursionLimit) (hu : un + 190 < cLine) (N : News h₀ L s.heap rest) (J : Dj rest)
    (ret : ∀ h' tk' a fp', Fr h₀ L h' m → News h₀ L h' (fp' ++ rest) → Dj (fp' ++ rest) → IL w P a fp' [] → Q (.ref a) { s with heap := h', toks := tk' }) :
    wpAny (model pg w) (topA dp un gd env outer) (call (.ref 68) []) Q E s :=
  new0_K B F X₀ T hf hke hroom hu N fun h' tk' x dx d t1 t2 F' N' k h1 h2 h3 lo => ret h' tk' x _ F' N' (dj_made J k h1 h2 h3) ⟨_, _, _, _, _, _, _, _, rfl, .nil, DictI.nil, lo⟩
theorem new1_L {base : Heap} {outer : List Env} {env : Env} {l : Addr} {vs : List Value} {ne : Nat} (hl : (l, W.listOf vs.toArray ne) ∈ rest) (hI : Dens w P vs ds) (hnd : ds.Nodup) (hlen : ds.length ≤ 1000)
    (B : Below A₀ base outer h₀) (F : Fr h₀ L s.heap m) (X₀ : (hd.heap_39 w.params).In h₀) (T : TP mean mg mb h₀) (hf : env.frame = some L) (hke : env.scope.kind = .function)
    (hroom : dp + 19 < recursionLimit) (hu : un + 190 < cLine) (N : News h₀ L s.heap rest) (J : Dj rest) (hP : PIn P h₀ rest)
    (ret : ∀ h' tk' a fp', Fr h₀ L h' m → News h₀ L h' (fp' ++ rest) → Dj (fp' ++ rest) → IL w P a fp' ds → Q (.ref a) { s with heap := h', toks := tk' }) :
    wpAny (model pg w) (topA dp un gd env outer) (call (.ref 68) [.ref l]) Q E s :=
  new1_K (extra := []) B F X₀ T hf hke hroom hu N hP hl rfl hI hnd hlen (fun q hq => absurd hq (by simp)) hen_list fun h' tk' x dx d n' od t1 t2 F' N' hD' k h1 h2 h3 lo => ret h' tk' x _ F' N' (dj_made J k h1 h2 h3) ⟨_, _, _, _, _, _, _, _, rfl, hI, hD', lo⟩
theorem new1_C {base : Heap} {outer : List Env} {env : Env} {l : Addr} (C : IL w P l fp ds) (hlen : ds.length ≤ 1000) (hfp : ∀ q ∈ fp, q ∈ rest)
    (B : Below A₀ base outer h₀) (F : Fr h₀ L s.heap m) (X₀ : (hd.heap_39 w.params).In h₀) (T : TP mean mg mb h₀) (hf : env.frame = some L) (hke : env.scope.kind = .function)
    (hroom : dp + 19 < recursionLimit) (hu : un + 190 < cLine) (N : News h₀ L s.heap rest) (J : Dj rest) (hP : PIn P h₀ rest)
    (ret : ∀ h' tk' a fp', Fr h₀ L h' m → News h₀ L h' (fp' ++ rest) → Dj (fp' ++ rest) → IL w P a fp' ds → Q (.ref a) { s with heap := h', toks := tk' }) :
    wpAny (model pg w) (topA dp un gd env outer) (call (.ref 68) [.ref l]) Q E s := by
  obtain ⟨ns, d, items, n, t1, t2, b, od, rfl, hI, hD, lo⟩ := C
  exact new1_K (extra := [(ns, nsObj w t1 t2 b d)]) B F X₀ T hf hke hroom hu N hP (hfp _ (.head _)) rfl hI hD.nodup hlen (fun q hq => by rw [List.mem_singleton.mp hq]; exact hfp _ (.tail _ (.head _))) hen_il fun h' tk' x dx d n' od t1 t2 F' N' hD' k h1 h2 h3 lo => ret h' tk' x _ F' N' (dj_made J k h1 h2 h3) ⟨_, _, _, _, _, _, _, _, rfl, hI, hD', lo⟩
end
theorem bound_of : ∀ {l k : List Dt}, l.Nodup → (∀ x ∈ l, x ∈ k) → l.length ≤ k.length
  | [], _, _, _ => Nat.zero_le _
  | x :: l, k, hn, hs => by
    have hx := hs x (.head _)
    have h1 := (List.nodup_cons.mp hn)
    obtain ⟨s, t, rfl⟩ := List.append_of_mem hx
    have := bound_of (k := s ++ t) h1.2 fun y hy => by
      have hm := hs y (.tail _ hy)
      rcases List.mem_append.mp hm with q | q
      · exact List.mem_append_left _ q
      · rcases List.mem_cons.mp q with e | q
        · rw [e] at hy; exact absurd hy h1.1
        · exact List.mem_append_right _ q
    simp only [List.length_append, List.length_cons] at this ⊢
    omega
theorem bound12 {ds : List Dt} (h : ds.Nodup) (k : ∀ x ∈ ds, x ∈ vals12) : ds.length ≤ 1000 := Nat.le_trans (bound_of h k) (by decide)
theorem bound13 {ds : List Dt} {x : Dt} (h : ds.Nodup) (k : ∀ x ∈ ds, x ∈ vals12) : (addD ds x).length ≤ 1000 := by
  have := bound_of h k
  unfold addD
  split
  · exact Nat.le_trans this (by decide)
  · rw [List.length_append]
    exact Nat.le_trans (Nat.add_le_add_right this _) (Nat.le_of_ble_eq_true rfl)
/-- one of the two lists with what it is due -/
structure Cell (w : World) (P : Addr → Obj → Prop) (a : Addr) (fp : Led) (dv : List Value) (ds : List Dt) : Prop where
  il : IL w P a fp ds
  dens : Dens w P dv ds
  sub : ∀ x ∈ ds, x ∈ vals12
theorem Cell.nodup {w : World} {P : Addr → Obj → Prop} {a : Addr} {fp : Led} {dv : List Value} {ds : List Dt} (c : Cell w P a fp dv ds) : ds.Nodup := c.il.nodup
theorem Cell.len {w : World} {P : Addr → Obj → Prop} {a : Addr} {fp : Led} {dv : List Value} {ds : List Dt} (c : Cell w P a fp dv ds) : ds.length ≤ 1000 := bound12 c.nodup c.sub
theorem Cell.ok {w : World} {P : Addr → Obj → Prop} {a : Addr} {fp : Led} {dv : List Value} {ds : List Dt} (c : Cell w P a fp dv ds) : ∀ x ∈ ds, okD x := fun y hy => ok12 y (c.sub y hy)
theorem Cell.mono {w : World} {P P' : Addr → Obj → Prop} {a : Addr} {fp : Led} {dv : List Value} {ds : List Dt} (c : Cell w P a fp dv ds) (k : ∀ b o, P b o → o.cls = .type "tuple" → P' b o) : Cell w P' a fp dv ds := ⟨c.il.mono k, c.dens.mono k, c.sub⟩
theorem addD_mem {ds : List Dt} {x y : Dt} (hy : y ∈ addD ds x) : y ∈ ds ∨ y = x := by
  unfold addD at hy
  split at hy
  · exact .inl hy
  · rcases List.mem_append.mp hy with h | h
    · exact .inl h
    · exact .inr (List.mem_singleton.mp h)
theorem addD_sub {ds : List Dt} {x : Dt} (h : ∀ y ∈ ds, y ∈ vals12) (hx : x ∈ vals12) : ∀ y ∈ addD ds x, y ∈ vals12 := fun y hy => (addD_mem hy).elim (h y) fun e => e ▸ hx
theorem addD_in {ds : List Dt} {x : Dt} (h : inD x ds = true) : addD ds x = ds := if_pos h
theorem addD_out {ds : List Dt} {x : Dt} (h : inD x ds = false) : addD ds x = ds ++ [x] := if_neg (by rw [h]; decide)
theorem dedup : ∀ (l : Led), (∀ p ∈ l, ∀ q ∈ l, (p.1 : Nat) = q.1 → p = q) → ∃ l', Dj l' ∧ ∀ p, p ∈ l' ↔ p ∈ l
  | [], _ => ⟨[], Dj.nil, fun _ => Iff.rfl⟩
  | x :: l, h => by
    obtain ⟨l', hj, hm⟩ := dedup l fun p hp q hq => h p (.tail _ hp) q (.tail _ hq)
    by_cases hx : x ∈ l
    · exact ⟨l', hj, fun p => (hm p).trans ⟨fun q => .tail _ q, fun q => (List.mem_cons.mp q).elim (fun e => e ▸ hx) id⟩⟩
    · refine ⟨x :: l', hj.cons fun q hq e => hx ?_, fun p => ?_⟩
      · rw [h x (.head _) q (.tail _ ((hm q).mp hq)) e]; exact (hm q).mp hq
      · rw [List.mem_cons, List.mem_cons, hm p]
theorem values_C {w : World} {A₀ : Around} {dp un : Nat} {gd : Option (List Code)} {s : Shared} {base h₀ : Heap} {outer : List Env} {L : Addr} {m : Str → Option Value} {env : Env} {rest : Led}
    {mean : ExcName → Option Value} {mg mb : Str → Option Value} {Q E : Value → Shared → Prop}
    (B : Below A₀ base outer h₀) (F : Fr h₀ L s.heap m) (X₀ : (hd.heap_39 w.params).In h₀) (T : TP mean mg mb h₀) (hf : env.frame = some L) (hke : env.scope.kind = .function)
    (hroom : dp + 9 < recursionLimit) (hu : un + 90 < cLine) (N : News h₀ L s.heap rest) (J : Dj rest)
    (ret : ∀ h' tk' l n vs tups, Fr h₀ L h' m → News h₀ L h' ((l, W.listOf vs.toArray n) :: (rest ++ tups)) → Dj ((l, W.listOf vs.toArray n) :: (rest ++ tups)) → Dens w (fun b o => (b, o) ∈ tups) vs vals12 → Q (.ref l) { s with heap := h', toks := tk' }) :
    wpAny (model pg w) (topA dp un gd env outer) (call (.ref 79) []) Q E s := by
  refine values_K B F X₀ T hf hke hroom hu N fun h' tk' l n vs tups F' N' df dl ct V => ?_
  obtain ⟨t', hj, hm⟩ := dedup tups fun p hp q hq e => by
    have a := (N' p (List.mem_append_left _ (.tail _ hp))).1
    have b := (N' q (List.mem_append_left _ (.tail _ hq))).1
    rw [show p.1 = q.1 from e, b] at a
    exact Prod.ext e (Option.some.inj a).symm
  refine ret h' tk' l n vs t' F' (subN N' fun q hq => ?_) (Dj.cons (Dj.app J hj fun p hp q hq => (df q (.tail _ ((hm q).mp hq)) p hp).symm) fun q hq => ?_) (V.mono fun b o k _ => (hm _).mpr k)
  · rcases List.mem_cons.mp hq with e | hq
    · rw [e]; exact .head _
    · rcases List.mem_append.mp hq with hq | hq
      · exact List.mem_append_right _ hq
      · exact List.mem_append_left _ (.tail _ ((hm q).mp hq))
  · rcases List.mem_append.mp hq with hq | hq
    · exact df _ (.head _) q hq
    · exact (dl q ((hm q).mp hq)).symm
end Mine

-- part ZB
namespace Mine
-- the walker keeps the rules that it found as long as their number stays: a step under no local rule makes it look anew
theorem anewZB {w : PySem.World} {A : PySem.Around} {E : PySem.Value → PySem.Shared → Prop} {Q : PySem.Flow → PySem.Shared → Prop} {s : PySem.Shared} {env : PySem.Env} (h : PySem.wpAny (PySem.model PySem.Challenge.rw_aa5017_01.row.prog w) A (PySem.execs [] env) Q E s) :
    PySem.wpAny (PySem.model PySem.Challenge.rw_aa5017_01.row.prog w) A (PySem.execs [] env) Q E s := by
  first | (walk1; fail) | exact h
end Mine
open PySem PySem.W PyProof.Rows PySem.Calls PySem.Builtin PySem.Builtin.ObjectAttr
set_option Elab.async false
set_option maxRecDepth 100000
namespace Mine
local macro_rules | `(tactic| walk_at "getMethod type:list") => `(tactic| (k_here; refine' method_type ?F ?X ?m (by decide +kernel) ?e ?h ?_; (case F => k_asm); (case X => k_asm); (case m => exact meta_list); (case e => k_dflt k_is); (case h => k_handed)))
local macro_rules | `(tactic| k_inst) => `(tactic| (refine' inst_il ?N ?h1 ?h2; (case N => k_asm); (case h1 => k_mem); (case h2 => k_mem)))
local macro_rules | `(tactic| walk_at "getAttr ref") => `(tactic| (k_here; k_dflt (refine' getOwn_il ?k1 ?k2 ?k3 ?k4 ?k5 ?k6 ?k7 ?_; (case k1 => k_asm); (case k2 => k_asm); (case k3 => k_inst); (case k4 => k_is); (case k5 => k_is); (case k6 => k_get); (case k7 => k_handed); k_whole)))
local macro_rules | `(tactic| walk_at "getMethod ref") => `(tactic| (k_here; k_dflt (refine' method_il ?k1 ?k2 ?k3 ?k4 ?k5 ?k6 ?_; (case k1 => k_asm); (case k2 => k_asm); (case k3 => k_inst); (case k4 => k_is); (case k5 => k_is); (case k6 => k_get); k_whole)))
local macro_rules | `(tactic| walk_at "call builtin:len") => `(tactic| (k_here; (with_reducible show wpAny _ _ (call (Value.builtin "len") [Value.ref _]) _ _ _); k_dflt (refine' lenK_il ?k1 ?k2 ?k3 ?k4 ?_; (case k1 => k_asm); (case k2 => k_asm); (case k3 => k_inst); (case k4 => omega); k_whole)))
local macro_rules | `(tactic| walk_at "call builtin:list.append") => `(tactic| (k_here; k_dflt (refine' append_il ?k1 ?k2 ?k3 ?k4 ?k5 ?k6 ?_; (case k1 => k_asm); (case k2 => k_asm); (case k3 => k_asm); (case k4 => k_inst); (case k5 => k_upd); (case k6 => omega); k_whole; intro h' F' N'; k_sweep)))
local macro_rules | `(tactic| walk_at "compareOp NotIn") => `(tactic| (k_here; k_dflt (refine' notIn_K ?k1 ?k2 ?k3 ?k4 ?k5 ?k6 ?k7 ?k8 ?_; (case k1 => k_asm); (case k2 => k_asm); (case k3 => k_asm); (case k4 => k_mem); (case k5 => assumption); (case k6 => assumption); (case k7 => assumption); (case k8 => ((try simp only [units_in1, units_deeper]); (try dsimp only); omega)); k_whole; intro tk')))
local macro_rules | `(tactic| walk_at "setItem ref int") => `(tactic| (k_here; k_dflt (refine' setItem_K ?k1 ?k2 ?k3 ?k4 ?k5 ?k6 ?k7 ?k8 ?k9 ?k10 ?_; (case k1 => k_asm); (case k2 => k_asm); (case k3 => k_updF); (case k4 => k_asm); (case k5 => assumption); (case k6 => assumption); (case k7 => ((try simp only [units_in1, units_deeper]); (try dsimp only); omega)); (case k8 => omega); (case k9 => first | assumption | exact notMem_of (by assumption)); (case k10 => omega); k_whole; intro h' od' tk' D' F' N'; k_sweep)))

local macro_rules | `(tactic| walk_at "setAttr ref ref") => `(tactic| (k_here; k_dflt (refine' set_il ?k1 ?k2 ?k3 ?k4 ?k5 ?k6 ?k7 ?k8 ?k9 ?_; (case k1 => k_asm); (case k2 => k_asm); (case k3 => k_asm); (case k4 => k_inst); (case k5 => k_is); (case k6 => k_get); (case k7 => k_put); (case k8 => k_upd); (case k9 => exact Nat.le_of_ble_eq_true rfl); k_whole; intro h' F' N'; k_sweep)))
local macro_rules | `(tactic| walk_at "setAttr ref bool") => `(tactic| (k_here; k_dflt (refine' set_il ?k1 ?k2 ?k3 ?k4 ?k5 ?k6 ?k7 ?k8 ?k9 ?_; (case k1 => k_asm); (case k2 => k_asm); (case k3 => k_asm); (case k4 => k_inst); (case k5 => k_is); (case k6 => k_get); (case k7 => k_put); (case k8 => k_upd); (case k9 => exact Nat.le_of_ble_eq_true rfl); k_whole; intro h' F' N'; k_sweep)))
local macro_rules | `(tactic| walk_at "eval Dict nil nil") => `(tactic| (k_here; k_dflt (refine' dict_nil ?k1 ?k2 ?k3 ?_; (case k1 => k_asm); (case k2 => k_asm); (case k3 => k_asm); k_whole; intro d' h' F' N' l1 lo' lb'; (try k_lt l1); k_sweep)))
local macro_rules | `(tactic| walk_at "exec For Name Call cons nil") => `(tactic| (k_here; (rename Fr _ _ _ _ => lF'); (with_unfolding_all refine' For_invVF lF' ?k1 ?k2 ?_; (case k1 => exact rfl); (case k2 => exact rfl); k_whole)))
local macro_rules | `(tactic| walk_at "execs cons If nil") => `(tactic| (k_here; refine wpAny_execs_cons ?_))
local macro_rules | `(tactic| walk_at "exec If") => `(tactic| (k_here; refine wpAny_If ?_))
local macro_rules | `(tactic| walk_at "execs cons Expr nil") => `(tactic| (k_here; refine wpAny_execs_cons ?_))
local macro_rules | `(tactic| walk_at "execs nil") => `(tactic| (refine wpAny_execs_nil ?_; (try dsimp only)))
local macro_rules | `(tactic| walk_at "compareOp NotIn ref") => `(tactic| (k_here; refine Stop.intro ?_))
local macro_rules | `(tactic| walk_at "compareOp NotIn") => `(tactic| (k_here; refine Stop.intro ?_))
local macro_rules | `(tactic| walk_at "compareOp In ref") => `(tactic| (k_here; refine Stop.intro ?_))
local macro_rules | `(tactic| walk_at "compareOp In") => `(tactic| (k_here; refine Stop.intro ?_))
local macro_rules | `(tactic| walk_at "call builtin:list.append") => `(tactic| (k_here; refine Stop.intro ?_))
local macro_rules | `(tactic| walk_at "call builtin:list.index") => `(tactic| (k_here; refine Stop.intro ?_))
local macro_rules | `(tactic| walk_at "call ref cons") => `(tactic| (k_here; refine Stop.intro ?_))
theorem fillsZB : True ∧ (PySem.Challenge.rw_aa5017_01, hd.heap_39) = (PySem.Challenge.rw_aa5017_01, hd.heap_39) := ⟨trivial, by k_fill; rfl⟩
/-- the statements of a loop -/
def bodyAt (body : List Stmt) (i : Nat) : List Stmt := match body[i]? with
  | some (.For _ _ b _ _) => b
  | _ => []
/-- a statement within a loop -/
def inner (body : List Stmt) (i j : Nat) : Option Stmt := match body[i]? with
  | some (.For _ _ b _ _) => b[j]?
  | _ => none
theorem sub_snoc {ds : List Dt} {x : Dt} (h : ∀ y ∈ ds, y ∈ vals12) (hx : x ∈ vals12) : ∀ y ∈ ds ++ [x], y ∈ vals12 := fun y hy => (List.mem_append.mp hy).elim (h y) fun e => by rw [List.mem_singleton.mp e]; exact hx
set_option maxHeartbeats 40000000 in
theorem law_deed {w : World} {h₀ : Heap} {s : Shared} {L fa : Addr} {cd : Value} {mean : ExcName → Option Value} {mg mb : Str → Option Value} {E : Value → Shared → Prop}
    {name qual : Str} {params : Arguments} {body : List Stmt} {scope : Scope} {dV kV doc pm cdv ct oc : Value} {an odd : Option Addr} {osl : Array (Option Value)} {st : Stmt}
    {P : Addr → Obj → Prop} {a e : Addr} {fp rest : Led} {dv : List Value} {c : Nat} {ds : List Dt} {v : Value} {x : Dt} {dn : Int} {dt : Tok} {m0 : Str → Option Value}
    (ho : (hd.heap_39 w.params).lookup 98 = some ⟨oc, odd, .func (fnOf name qual params body scope dV kV doc pm an cdv ct), osl⟩) (hst : inner body 5 5 = some st)
    (K0 : Below callerA h₀ [] h₀) (X₀ : (hd.heap_39 w.params).In h₀) (T : TP mean mg mb h₀)
    (C : Cell w P a fp dv ds) (hx : DenP pg w P v x) (hxv : x ∈ vals12) (hP : ∀ b o, P b o → (b, o) ∈ rest)
    (F : Fr h₀ L s.heap (fun y => if y = Str.ofString "due" then some (.ref e) else if y = Str.ofString "told" then some (.ref a) else if y = Str.ofString "value" then some v else if y = Str.ofString "deed" then some (.int dn dt) else m0 y))
    (N : News h₀ L s.heap ((e, W.listOf dv.toArray c) :: (fp ++ rest))) (J : Dj ((e, W.listOf dv.toArray c) :: (fp ++ rest))) :
    wpAny (model pg w) (callerA.deeper (envOf qual scope L fa cd)) (exec st (envOf qual scope L fa cd))
      (Then h₀ L s (fun m' news' => ∃ u fp' dv' c' ds', m' = (fun y => if y = Str.ofString "place" then u else if y = Str.ofString "due" then some (.ref e) else if y = Str.ofString "told" then some (.ref a) else if y = Str.ofString "value" then some v else if y = Str.ofString "deed" then some (.int dn dt) else m0 y) ∧
        news' = (e, W.listOf (List.toArray dv') c') :: (fp' ++ rest) ∧ Dj news' ∧ Cell w P a fp' dv' ds')) E s := by
  have fill : (PySem.Challenge.rw_aa5017_01, hd.heap_39) = (PySem.Challenge.rw_aa5017_01, hd.heap_39) := by k_fill; rfl
  have ho2 := ho.symm.trans (show (hd.heap_39 w.params).lookup 98 = some ⟨_, _, .func (fnOf _ _ _ _ _ _ _ _ _ _ _ _), _⟩ by k_is)
  simp only [Option.some.injEq, Obj.mk.injEq, Data.func.injEq, fnOf] at ho2
  obtain ⟨-, -, hf, -⟩ := ho2
  have hq : qual = _ := congrArg FuncData.qualname hf
  have hb := congrArg FuncData.body hf
  have hs : scope = _ := congrArg FuncData.scope hf
  dsimp only at hq hb hs
  injection hb with hb
  subst hq hs hb
  injection hst with hst
  subst hst
  clear hf ho
  have hle := C.len
  have hok := C.ok
  have hnd := C.nodup
  have okx := ok12 x hxv
  obtain ⟨il, hV, hsub⟩ := C
  have il' := il
  obtain ⟨ns, d, items, n, t1, t2, b, od, rfl, -, -, -⟩ := il'
  have hPI : PIn P h₀ ((e, W.listOf dv.toArray c) :: rest) := fun b o q _ => .inr (.tail _ (hP b o q))
  have pm1 : ∀ {fp : Led} {q : Addr × Obj}, (q :: (fp ++ rest)).Perm (fp ++ q :: rest) := List.perm_middle.symm
  have hmap := map_start (fun y => if y = Str.ofString "due" then some (.ref e) else if y = Str.ofString "told" then some (.ref a) else if y = Str.ofString "value" then some v else if y = Str.ofString "deed" then some (.int dn dt) else m0 y) (Str.ofString "place")
  have N0 := permN N pm1
  have J0 := J.perm pm1
  simp only [List.cons_append, List.nil_append] at N
  (try k_fold)
  k_steps
  · show wpAny _ _ _ _ _ _
    refine append_C (rest := (e, W.listOf dv.toArray c) :: rest) il K0 F X₀ T rfl rfl (by decide) (by decide) N0 J0 hPI hx hle fun h1 tk1 fp' F1 N1 J1 il1 => ?_
    clear N F N0 J0 J
    have N1 := permN N1 pm1.symm
    replace J1 := J1.perm pm1.symm
    have kP : TupsIn P h1 := fun b o q _ => (N1 _ (.tail _ (List.mem_append_right _ (hP b o q)))).1
    k_steps
    show wpAny _ _ _ _ _ _
    refine notIn_L kP (N1 _ (.head _)).1 hV hx hok okx (Nat.le_of_ble_eq_true rfl) ?_
    k_steps
    · rename_i hin
      rw [addD_in hin] at il1
      exact Then.intro F1 N1 ⟨_, fp', dv, c, ds, hmap, rfl, J1, il1, hV, hsub⟩
    · rename_i hin
      rw [addD_out hin] at il1
      show wpAny _ _ _ _ _ _
      refine PySem.W.append_K F1 N1 (.head fun q hq => (J1.head q hq).symm) (fun h2 F2 N2 => ?_) (by rw [List.size_toArray, sizeLine_eq, hV.length]; omega)
      k_steps
      have N4 : News h₀ L h2 ((e, W.listOf (List.toArray (dv ++ [v])) (c + 1)) :: (fp' ++ rest)) := by simpa using N2
      exact Then.intro F2 N4 ⟨_, fp', dv ++ [v], c + 1, ds ++ [x], hmap, rfl, dj_upd J1 rfl, il1, hV.snoc hx, sub_snoc hsub hxv⟩
  · show wpAny _ _ _ _ _ _
    refine add_C (rest := (e, W.listOf dv.toArray c) :: rest) il K0 F X₀ T rfl rfl (by decide) (by decide) N0 J0 hPI hx hle fun h1 tk1 fp' i ti F1 N1 J1 il1 hi => ?_
    clear N F N0 J0 J
    have N1 := permN N1 pm1.symm
    replace J1 := J1.perm pm1.symm
    k_steps
    show wpAny _ _ _ _ _ _
    rename News _ _ _ _ => N2
    rename Fr _ _ _ _ => F2
    refine notIn_L (fun b o q _ => (N2 _ (.tail _ (List.mem_append_right _ (hP b o q)))).1) (N2 _ (.head _)).1 hV hx hok okx (Nat.le_of_ble_eq_true rfl) ?_
    k_steps
    · rename_i hin
      rw [addD_in hin] at il1 hi
      show wpAny _ _ _ _ _ _
      refine index_L (fun b o q _ => (N2 _ (.tail _ (List.mem_append_right _ (hP b o q)))).1) (N2 _ (.head _)).1 hV hx hok okx (Nat.le_of_ble_eq_true rfl) hle hi hnd ?_
      k_steps
      · rename_i hne; exact absurd rfl hne
      · exact Then.intro F2 N2 ⟨_, fp', dv, c, ds, rfl, rfl, J1, il1, hV, hsub⟩
    · rename_i hin
      rw [addD_out hin] at il1 hi
      show wpAny _ _ _ _ _ _
      refine PySem.W.append_K F2 N2 (.head fun q hq => (J1.head q hq).symm) (fun h3 F3 N3 => ?_) (by rw [List.size_toArray, sizeLine_eq, hV.length]; omega)
      have N4 : News h₀ L h3 ((e, W.listOf (List.toArray (dv ++ [v])) (c + 1)) :: (fp' ++ rest)) := by simpa using N3
      clear N3 N2 F2
      k_steps
      show wpAny _ _ _ _ _ _
      refine index_L (P := P) (fun b o q _ => (N4 _ (.tail _ (List.mem_append_right _ (hP b o q)))).1) (N4 _ (.head _)).1 (hV.snoc hx) hx (fun y hy => ok12 y (sub_snoc hsub hxv y hy)) okx (Nat.le_of_ble_eq_true rfl) (bound12 il1.nodup (sub_snoc hsub hxv)) hi il1.nodup ?_
      k_steps
      · rename_i hne; exact absurd rfl hne
      · exact Then.intro F3 N4 ⟨_, fp', dv ++ [v], c + 1, ds ++ [x], rfl, rfl, dj_upd J1 rfl, il1, hV.snoc hx, sub_snoc hsub hxv⟩
  · show wpAny _ _ _ _ _ _
    refine inIl_C (rest := (e, W.listOf dv.toArray c) :: rest) il rfl K0 F X₀ T rfl rfl (by decide) (by decide) N0 J0 hPI hx hle fun h1 tk1 fp' F1 N1 J1 il1 => ?_
    clear N F N0 J0 J
    have N1 := permN N1 pm1.symm
    replace J1 := J1.perm pm1.symm
    have kP : TupsIn P h1 := fun b o q _ => (N1 _ (.tail _ (List.mem_append_right _ (hP b o q)))).1
    k_steps
    show wpAny _ _ _ _ _ _
    refine in_L kP (N1 _ (.head _)).1 hV hx hok okx (Nat.le_of_ble_eq_true rfl) ?_
    k_steps
    · rename_i hin
      simp at hin
    · exact Then.intro F1 N1 ⟨_, fp', dv, c, ds, hmap, rfl, J1, il1, hV, hsub⟩
  · show wpAny _ _ _ _ _ _
    refine place_C (rest := (e, W.listOf dv.toArray c) :: rest) il K0 F X₀ T rfl (by decide) (by decide) N0 J0 hPI hx hle fun h1 tk1 fp' r tr F1 N1 J1 il1 hr => ?_
    clear N F N0 J0 J
    have N1 := permN N1 pm1.symm
    replace J1 := J1.perm pm1.symm
    have kP : TupsIn P h1 := fun b o q _ => (N1 _ (.tail _ (List.mem_append_right _ (hP b o q)))).1
    k_steps
    show wpAny _ _ _ _ _ _
    refine in_L kP (N1 _ (.head _)).1 hV hx hok okx (Nat.le_of_ble_eq_true rfl) ?_
    k_steps
    · rename_i hin
      have hri : ∃ i : Nat, r = i ∧ ds[i]? = some x := hr.elim id fun z => by rw [hin] at z; exact absurd z.2 (by decide)
      clear hr
      obtain ⟨i, rfl, hi⟩ := hri
      show wpAny _ _ _ _ _ _
      refine index_L kP (N1 _ (.head _)).1 hV hx hok okx (Nat.le_of_ble_eq_true rfl) hle hi hnd ?_
      k_steps
      · rename_i hne; exact absurd rfl hne
      · exact Then.intro (by assumption) (by assumption) ⟨_, fp', dv, c, ds, hmap, rfl, J1, il1, hV, hsub⟩
    · rename_i hin hne
      exfalso
      rcases hr with ⟨i, _, hi⟩ | ⟨e, _⟩
      · rw [inD_true (List.mem_of_getElem? hi)] at hin; cases hin
      · exact hne e
    · rename_i hin hne
      exact Then.intro (by assumption) (by assumption) ⟨_, fp', dv, c, ds, hmap, rfl, J1, il1, hV, hsub⟩
end Mine

-- part ZD
namespace Mine
-- the walker keeps the rules that it found as long as their number stays: a step under no local rule makes it look anew
theorem anewZD {w : PySem.World} {A : PySem.Around} {E : PySem.Value → PySem.Shared → Prop} {Q : PySem.Flow → PySem.Shared → Prop} {s : PySem.Shared} {env : PySem.Env} (h : PySem.wpAny (PySem.model PySem.Challenge.rw_aa5017_01.row.prog w) A (PySem.execs [] env) Q E s) :
    PySem.wpAny (PySem.model PySem.Challenge.rw_aa5017_01.row.prog w) A (PySem.execs [] env) Q E s := by
  first | (walk1; fail) | exact h
end Mine
open PySem PySem.W PyProof.Rows PySem.Calls PySem.Builtin PySem.Builtin.ObjectAttr
set_option Elab.async false
set_option maxRecDepth 100000
namespace Mine
local macro_rules | `(tactic| walk_at "getMethod type:list") => `(tactic| (k_here; refine' method_type ?F ?X ?m (by decide +kernel) ?e ?h ?_; (case F => k_asm); (case X => k_asm); (case m => exact meta_list); (case e => k_dflt k_is); (case h => k_handed)))
local macro_rules | `(tactic| k_inst) => `(tactic| (refine' inst_il ?N ?h1 ?h2; (case N => k_asm); (case h1 => k_mem); (case h2 => k_mem)))
local macro_rules | `(tactic| walk_at "getAttr ref") => `(tactic| (k_here; k_dflt (refine' getOwn_il ?k1 ?k2 ?k3 ?k4 ?k5 ?k6 ?k7 ?_; (case k1 => k_asm); (case k2 => k_asm); (case k3 => k_inst); (case k4 => k_is); (case k5 => k_is); (case k6 => k_get); (case k7 => k_handed); k_whole)))
local macro_rules | `(tactic| walk_at "getMethod ref") => `(tactic| (k_here; k_dflt (refine' method_il ?k1 ?k2 ?k3 ?k4 ?k5 ?k6 ?_; (case k1 => k_asm); (case k2 => k_asm); (case k3 => k_inst); (case k4 => k_is); (case k5 => k_is); (case k6 => k_get); k_whole)))
local macro_rules | `(tactic| walk_at "call builtin:len") => `(tactic| (k_here; (with_reducible show wpAny _ _ (call (Value.builtin "len") [Value.ref _]) _ _ _); k_dflt (refine' lenK_il ?k1 ?k2 ?k3 ?k4 ?_; (case k1 => k_asm); (case k2 => k_asm); (case k3 => k_inst); (case k4 => omega); k_whole)))
local macro_rules | `(tactic| walk_at "call builtin:list.append") => `(tactic| (k_here; k_dflt (refine' append_il ?k1 ?k2 ?k3 ?k4 ?k5 ?k6 ?_; (case k1 => k_asm); (case k2 => k_asm); (case k3 => k_asm); (case k4 => k_inst); (case k5 => k_upd); (case k6 => omega); k_whole; intro h' F' N'; k_sweep)))
local macro_rules | `(tactic| walk_at "compareOp NotIn") => `(tactic| (k_here; k_dflt (refine' notIn_K ?k1 ?k2 ?k3 ?k4 ?k5 ?k6 ?k7 ?k8 ?_; (case k1 => k_asm); (case k2 => k_asm); (case k3 => k_asm); (case k4 => k_mem); (case k5 => assumption); (case k6 => assumption); (case k7 => assumption); (case k8 => ((try simp only [units_in1, units_deeper]); (try dsimp only); omega)); k_whole; intro tk')))
local macro_rules | `(tactic| walk_at "setItem ref int") => `(tactic| (k_here; k_dflt (refine' setItem_K ?k1 ?k2 ?k3 ?k4 ?k5 ?k6 ?k7 ?k8 ?k9 ?k10 ?_; (case k1 => k_asm); (case k2 => k_asm); (case k3 => k_updF); (case k4 => k_asm); (case k5 => assumption); (case k6 => assumption); (case k7 => ((try simp only [units_in1, units_deeper]); (try dsimp only); omega)); (case k8 => omega); (case k9 => first | assumption | exact notMem_of (by assumption)); (case k10 => omega); k_whole; intro h' od' tk' D' F' N'; k_sweep)))

local macro_rules | `(tactic| walk_at "setAttr ref ref") => `(tactic| (k_here; k_dflt (refine' set_il ?k1 ?k2 ?k3 ?k4 ?k5 ?k6 ?k7 ?k8 ?k9 ?_; (case k1 => k_asm); (case k2 => k_asm); (case k3 => k_asm); (case k4 => k_inst); (case k5 => k_is); (case k6 => k_get); (case k7 => k_put); (case k8 => k_upd); (case k9 => exact Nat.le_of_ble_eq_true rfl); k_whole; intro h' F' N'; k_sweep)))
local macro_rules | `(tactic| walk_at "setAttr ref bool") => `(tactic| (k_here; k_dflt (refine' set_il ?k1 ?k2 ?k3 ?k4 ?k5 ?k6 ?k7 ?k8 ?k9 ?_; (case k1 => k_asm); (case k2 => k_asm); (case k3 => k_asm); (case k4 => k_inst); (case k5 => k_is); (case k6 => k_get); (case k7 => k_put); (case k8 => k_upd); (case k9 => exact Nat.le_of_ble_eq_true rfl); k_whole; intro h' F' N'; k_sweep)))
local macro_rules | `(tactic| walk_at "eval Dict nil nil") => `(tactic| (k_here; k_dflt (refine' dict_nil ?k1 ?k2 ?k3 ?_; (case k1 => k_asm); (case k2 => k_asm); (case k3 => k_asm); k_whole; intro d' h' F' N' l1 lo' lb'; (try k_lt l1); k_sweep)))
local macro_rules | `(tactic| walk_at "exec For Name Call cons nil") => `(tactic| (k_here; (rename Fr _ _ _ _ => lF'); (with_unfolding_all refine' For_invVF lF' ?k1 ?k2 ?_; (case k1 => exact rfl); (case k2 => exact rfl); k_whole)))
local macro_rules | `(tactic| walk_at "execs cons If nil") => `(tactic| (k_here; refine wpAny_execs_cons ?_))
local macro_rules | `(tactic| walk_at "exec If") => `(tactic| (k_here; refine wpAny_If ?_))
local macro_rules | `(tactic| walk_at "execs cons Expr nil") => `(tactic| (k_here; refine wpAny_execs_cons ?_))
local macro_rules | `(tactic| walk_at "execs nil") => `(tactic| (refine wpAny_execs_nil ?_; (try dsimp only)))
local macro_rules | `(tactic| walk_at "compareOp NotIn ref") => `(tactic| (k_here; refine Stop.intro ?_))
local macro_rules | `(tactic| walk_at "compareOp NotIn") => `(tactic| (k_here; refine Stop.intro ?_))
local macro_rules | `(tactic| walk_at "compareOp In ref") => `(tactic| (k_here; refine Stop.intro ?_))
local macro_rules | `(tactic| walk_at "compareOp In") => `(tactic| (k_here; refine Stop.intro ?_))
local macro_rules | `(tactic| walk_at "call builtin:list.append") => `(tactic| (k_here; refine Stop.intro ?_))
local macro_rules | `(tactic| walk_at "call builtin:list.index") => `(tactic| (k_here; refine Stop.intro ?_))
local macro_rules | `(tactic| walk_at "call ref cons") => `(tactic| (k_here; refine Stop.intro ?_))
local macro_rules | `(tactic| walk_at "execs cons If cons") => `(tactic| (k_here; refine Stop.intro ?_))
local macro_rules | `(tactic| walk_at "call ref nil") => `(tactic| (k_here; (try dsimp only); (with_reducible show wpAny _ _ (call (Value.ref 79) _) _ _ _); k_dflt (refine' values_C ?kB ?kF ?kX ?kT ?khf ?khk ?kr ?ku ?kN ?kJ ?_; (case kB => k_asm); (case kF => k_asm); (case kX => k_asm); (case kT => k_asm); (case khf => exact rfl); (case khk => exact rfl); (case kr => decide); (case ku => decide); (case kN => k_asm); (case kJ => assumption); k_whole; intro h' tk' l n vs tups F' N' J' V'; (have hv12 : vs.length = 12 := V'.length); (simp only [List.cons_append, List.append_assoc] at N' J'); k_sweep)))
local macro_rules | `(tactic| walk_at "subscriptTail Call Name nil nil BinOp ref int") => `(tactic| (k_here; k_dflt (refine' item_V (ds := vals12) ?k1 ?kV ?k2 ?k3 ?k4 ?_ ?k6; (case k1 => exact (News.get (by k_asm) (by k_mem))); (case kV => assumption); (case k2 => (rw [Int.fmod_eq_emod_of_nonneg _ (show (0 : Int) ≤ 12 by decide)]; omega)); (case k3 => (rw [Int.fmod_eq_emod_of_nonneg _ (show (0 : Int) ≤ 12 by decide)]; show _ < (12 : Int); omega)); (case k4 => decide); (case k6 => rfl); k_whole; intro j v x hj hx hxd)))
local macro_rules | `(tactic| walk_at "subscriptTail Name Name ref int") => `(tactic| (k_here; k_dflt (refine' item_L ?k1 ?k2 ?k3 ?k4 ?_ ?k6; (case k1 => exact (News.get (by k_asm) (by k_mem))); (case k2 => (rw [Int.fmod_eq_emod_of_nonneg _ (show (0 : Int) ≤ 2 by decide)]; omega)); (case k3 => (rw [Int.fmod_eq_emod_of_nonneg _ (show (0 : Int) ≤ 2 by decide)]; show _ < (2 : Int); omega)); (case k4 => exact Nat.le_of_ble_eq_true rfl); (case k6 => rfl); k_whole; intro j v hj hv)))
theorem fillsZD : True ∧ (PySem.Challenge.rw_aa5017_01, hd.heap_39) = (PySem.Challenge.rw_aa5017_01, hd.heap_39) := ⟨trivial, by k_fill; rfl⟩
theorem Then.mono {h₀ : Heap} {L : Addr} {s : Shared} {J J' : (Str → Option Value) → Led → Prop} {f : Flow} {s' : Shared} (h : Then h₀ L s J f s') (k : ∀ h' m news, News h₀ L h' news → J m news → ∃ news', News h₀ L h' news' ∧ J' m news') : Then h₀ L s J' f s' := by
  obtain ⟨rfl, h', tk, m, news, rfl, F, N, j⟩ := h
  obtain ⟨news', N', j'⟩ := k h' m news N j
  exact Then.intro F N' j'
theorem loc2 {m : Str → Option Value} {x z : Str} {a b : Option Value} (h1 : m x = a) (h2 : m z = b) : m = fun y => if y = x then a else if y = z then b else m y := by
  funext y
  by_cases h : y = x
  · rw [if_pos h, h, h1]
  · rw [if_neg h]
    by_cases h' : y = z
    · rw [if_pos h', h', h2]
    · rw [if_neg h']
theorem permA {x1 x2 p d a b : Addr × Obj} {f r : Led} : (x1 :: x2 :: p :: d :: a :: b :: (f ++ r)).Perm (a :: (f ++ (x1 :: x2 :: p :: d :: b :: r))) :=
  (List.perm_middle (l₁ := [x1, x2, p, d]) (a := a) (l₂ := b :: (f ++ r))).trans (.cons a (List.perm_append_comm_assoc [x1, x2, p, d, b] f r))
theorem permB {x1 x2 p d a b : Addr × Obj} {g f r : Led} : (x1 :: x2 :: p :: d :: a :: b :: (g ++ (f ++ r))).Perm (b :: (f ++ (x1 :: x2 :: p :: d :: a :: (g ++ r)))) := by
  refine (List.perm_middle (l₁ := [x1, x2, p, d, a]) (a := b) (l₂ := g ++ (f ++ r))).trans (.cons b ?_)
  have := List.perm_append_comm_assoc ([x1, x2, p, d, a] ++ g) f r
  simpa using this
theorem perm6 {x1 x2 p d a b : Addr × Obj} {f r : Led} : (x1 :: x2 :: p :: d :: a :: b :: (f ++ r)).Perm (f ++ (x1 :: x2 :: p :: d :: a :: b :: r)) := List.perm_append_comm_assoc [x1, x2, p, d, a, b] f r
theorem perm7 {x1 x2 p d a b : Addr × Obj} {g f r : Led} : (x1 :: x2 :: p :: d :: a :: b :: (g ++ (f ++ r))).Perm (f ++ (x1 :: x2 :: p :: d :: a :: b :: (g ++ r))) := by
  have := List.perm_append_comm_assoc ([x1, x2, p, d, a, b] ++ g) f r
  simpa using this
set_option maxHeartbeats 40000000 in
theorem law_turn {w : World} {h₀ : Heap} {s : Shared} {L fa I : Addr} {cd : Value} {mean : ExcName → Option Value} {mg mb : Str → Option Value} {E : Value → Shared → Prop} {Q : Flow → Shared → Prop}
    {name qual : Str} {params : Arguments} {body lb : List Stmt} {scope : Scope} {dV kV doc pm cdv ct oc : Value} {an odd : Option Addr} {osl : Array (Option Value)}
    {aA aB eA eB pr du : Addr} {fpA fpB tups : Led} {dvA dvB : List Value} {cA cB cp cq : Nat} {dsA dsB : List Dt} {nb : Int} {tb : Tok} {m0 : Str → Option Value} {x1 x2 : Addr × Obj} {Jn : (Str → Option Value) → Led → Prop}
    (ho : (hd.heap_39 w.params).lookup 98 = some ⟨oc, odd, .func (fnOf name qual params body scope dV kV doc pm an cdv ct), osl⟩) (hlb : bodyAt body 5 = lb)
    (K0 : Below callerA h₀ [] h₀) (X₀ : (hd.heap_39 w.params).In h₀) (T : TP mean mg mb h₀)
    (CA : Cell w (fun b o => (b, o) ∈ tups) aA fpA dvA dsA) (CB : Cell w (fun b o => (b, o) ∈ tups) aB fpB dvB dsB)
    (F : Fr h₀ L s.heap (fun y => if y = Str.ofString "number" then some (.int nb tb) else if y = Str.ofString "pair" then some (.ref pr) else if y = Str.ofString "dues" then some (.ref du) else m0 y))
    (N : News h₀ L s.heap (x1 :: x2 :: (pr, W.listOf [.ref aA, .ref aB].toArray cp) :: (du, W.listOf [.ref eA, .ref eB].toArray cq) :: (eA, W.listOf dvA.toArray cA) :: (eB, W.listOf dvB.toArray cB) :: (fpA ++ (fpB ++ tups))))
    (J : Dj (x1 :: x2 :: (pr, W.listOf [.ref aA, .ref aB].toArray cp) :: (du, W.listOf [.ref eA, .ref eB].toArray cq) :: (eA, W.listOf dvA.toArray cA) :: (eB, W.listOf dvB.toArray cB) :: (fpA ++ (fpB ++ tups))))
    (hI : x1.1 = I)
    (hJn : ∀ m' fpA' fpB' tups' dvA' dvB' cA' cB' dsA' dsB', m' (Str.ofString "pair") = some (.ref pr) → m' (Str.ofString "dues") = some (.ref du) →
      Dj (x1 :: x2 :: (pr, W.listOf [.ref aA, .ref aB].toArray cp) :: (du, W.listOf [.ref eA, .ref eB].toArray cq) :: (eA, W.listOf (List.toArray dvA') cA') :: (eB, W.listOf (List.toArray dvB') cB') :: (fpA' ++ (fpB' ++ tups'))) →
      Cell w (fun b o => (b, o) ∈ tups') aA fpA' dvA' dsA' → Cell w (fun b o => (b, o) ∈ tups') aB fpB' dvB' dsB' →
      Jn m' ((pr, W.listOf [.ref aA, .ref aB].toArray cp) :: (du, W.listOf [.ref eA, .ref eB].toArray cq) :: (eA, W.listOf (List.toArray dvA') cA') :: (eB, W.listOf (List.toArray dvB') cB') :: (fpA' ++ (fpB' ++ tups')))) :
    wpAny (model pg w) (callerA.deeper (envOf qual scope L fa cd)) (execs lb (envOf qual scope L fa cd)) (TurnEnd h₀ L I [x1, x2] Jn s Q) E s := by
  have fill : (PySem.Challenge.rw_aa5017_01, hd.heap_39) = (PySem.Challenge.rw_aa5017_01, hd.heap_39) := by k_fill; rfl
  have hdeed := @law_deed w h₀
  have ho' := ho
  have ho2 := ho.symm.trans (show (hd.heap_39 w.params).lookup 98 = some ⟨_, _, .func (fnOf _ _ _ _ _ _ _ _ _ _ _ _), _⟩ by k_is)
  simp only [Option.some.injEq, Obj.mk.injEq, Data.func.injEq, fnOf] at ho2
  obtain ⟨-, -, hf, -⟩ := ho2
  have hq : qual = _ := congrArg FuncData.qualname hf
  have hb := congrArg FuncData.body hf
  have hs : scope = _ := congrArg FuncData.scope hf
  dsimp only at hq hb hs
  injection hb with hb
  subst hq hs hb
  subst hlb
  clear hf ho
  show wpAny _ _ (execs [_, _, _, _, _, _, _] _) _ _ _
  (try k_fold)
  k_steps
  rename_i l nl vs tups5 V5 hv12 J5 j5 v5 x hj5 hxv hxd h5 jt vt hjt hvt h6 jd vd hjd hvd h7 F7 N7
  have hm2 : nb.fmod 2 = nb % 2 := Int.fmod_eq_emod_of_nonneg _ (by decide)
  have hj2 : jt = 0 ∨ jt = 1 := by omega
  have hjj : jd = jt := by omega
  subst hjj
  have N8 := subN N7 (fun q hq => List.mem_cons_of_mem _ hq)
  have J8 := J5.tail
  have CA' : Cell w (fun b o => (b, o) ∈ tups ++ tups5) aA fpA dvA dsA := CA.mono fun _ _ h _ => List.mem_append_left _ h
  have CB' : Cell w (fun b o => (b, o) ∈ tups ++ tups5) aB fpB dvB dsB := CB.mono fun _ _ h _ => List.mem_append_left _ h
  have hxd' : DenP pg w (fun b o => (b, o) ∈ tups ++ tups5) v5 x := hxd.mono fun _ _ h _ => List.mem_append_right _ h
  clear N7 J5 hv12 V5 CA CB hxd hjd hm2 hj5
  generalize tups ++ tups5 = tp at *
  show wpAny _ _ (execs [_, _] _) _ _ _
  refine execs_then (h₀ := h₀) (L := L) (fun m' news' => ∃ fpA' fpB' dvA' dvB' cA' cB' dsA' dsB', m' (Str.ofString "pair") = some (.ref pr) ∧ m' (Str.ofString "dues") = some (.ref du) ∧
    news' = x1 :: x2 :: (pr, W.listOf [.ref aA, .ref aB].toArray cp) :: (du, W.listOf [.ref eA, .ref eB].toArray cq) :: (eA, W.listOf (List.toArray dvA') cA') :: (eB, W.listOf (List.toArray dvB') cB') :: (fpA' ++ (fpB' ++ tp)) ∧
    Dj news' ∧ Cell w (fun b o => (b, o) ∈ tp) aA fpA' dvA' dsA' ∧ Cell w (fun b o => (b, o) ∈ tp) aB fpB' dvB' dsB') ?_ ?_
  · rcases hj2 with e | e
    · subst e
      obtain rfl : Value.ref aA = vt := Option.some.inj hvt
      obtain rfl : Value.ref eA = vd := Option.some.inj hvd
      refine wpAny_mono (hdeed (rest := x1 :: x2 :: (pr, W.listOf [.ref aA, .ref aB].toArray cp) :: (du, W.listOf [.ref eA, .ref eB].toArray cq) :: (eB, W.listOf dvB.toArray cB) :: (fpB ++ tp)) ho' rfl K0 X₀ T CA' hxd' hxv (fun b o q => by simp [q]) F7 (permN N8 permA) (J8.perm permA))
        (fun f s2 hf => Then.mono hf fun h' m' news' N' hj => ?_) fun _ _ e => e
      obtain ⟨u, fp', dv', c', ds', rfl, rfl, J', C'⟩ := hj
      exact ⟨_, permN N' permA.symm, fp', fpB, dv', dvB, c', cB, ds', dsB, rfl, rfl, rfl, J'.perm permA.symm, C', CB'⟩
    · subst e
      obtain rfl : Value.ref aB = vt := Option.some.inj hvt
      obtain rfl : Value.ref eB = vd := Option.some.inj hvd
      refine wpAny_mono (hdeed (rest := x1 :: x2 :: (pr, W.listOf [.ref aA, .ref aB].toArray cp) :: (du, W.listOf [.ref eA, .ref eB].toArray cq) :: (eA, W.listOf dvA.toArray cA) :: (fpA ++ tp)) ho' rfl K0 X₀ T CB' hxd' hxv (fun b o q => by simp [q]) F7 (permN N8 permB) (J8.perm permB))
        (fun f s2 hf => Then.mono hf fun h' m' news' N' hj => ?_) fun _ _ e => e
      obtain ⟨u, fp', dv', c', ds', rfl, rfl, J', C'⟩ := hj
      exact ⟨_, permN N' permB.symm, fpA, fp', dvA, dv', cA, c', dsA, ds', rfl, rfl, rfl, J'.perm permB.symm, CA', C'⟩
  clear F7 N8 J8 CA' CB' hxd' hvt hvd hdeed
  rintro h8 tk8 m8 news8 F8 N8 ⟨fpA8, fpB8, dvA8, dvB8, cA8, cB8, dsA8, dsB8, hm1, hm2, rfl, J8, CA8, CB8⟩
  obtain ⟨m9, rfl⟩ : ∃ m9, m8 = (fun y => if y = Str.ofString "pair" then some (.ref pr) else if y = Str.ofString "dues" then some (.ref du) else m9 y) := ⟨m8, loc2 hm1 hm2⟩
  clear hm1 hm2
  dsimp only
  k_steps
  show wpAny _ _ _ _ _ _
  refine so_C (rest := x1 :: x2 :: (pr, W.listOf [.ref aA, .ref aB].toArray cp) :: (du, W.listOf [.ref eA, .ref eB].toArray cq) :: (eA, W.listOf dvA8.toArray cA8) :: (eB, W.listOf dvB8.toArray cB8) :: (fpB8 ++ tp)) CA8.il CA8.dens (.tail _ (.tail _ (.tail _ (.tail _ (.head _))))) CA8.ok K0 F8 X₀ T rfl rfl (by decide) (by decide)
    (permN N8 perm6) (J8.perm perm6) (fun b o q _ => .inr (by simp [q])) CA8.len fun h9 tk9 fpA9 F9 N9 J9 ilA9 => ?_
  replace N9 := permN N9 perm6.symm
  replace J9 := J9.perm perm6.symm
  have CA9 : Cell w (fun b o => (b, o) ∈ tp) aA fpA9 dvA8 dsA8 := ⟨ilA9, CA8.dens, CA8.sub⟩
  clear N8 F8 J8 CA8 ilA9
  k_steps
  show wpAny _ _ _ _ _ _
  refine so_C (rest := x1 :: x2 :: (pr, W.listOf [.ref aA, .ref aB].toArray cp) :: (du, W.listOf [.ref eA, .ref eB].toArray cq) :: (eA, W.listOf dvA8.toArray cA8) :: (eB, W.listOf dvB8.toArray cB8) :: (fpA9 ++ tp)) CB8.il CB8.dens (.tail _ (.tail _ (.tail _ (.tail _ (.tail _ (.head _)))))) CB8.ok K0 F9 X₀ T rfl rfl (by decide) (by decide)
    (permN N9 perm7) (J9.perm perm7) (fun b o q _ => .inr (by simp [q])) CB8.len fun h10 tk10 fpB9 F10 N10 J10 ilB9 => ?_
  replace N10 := permN N10 perm7.symm
  replace J10 := J10.perm perm7.symm
  have CB9 : Cell w (fun b o => (b, o) ∈ tp) aB fpB9 dvB8 dsB8 := ⟨ilB9, CB8.dens, CB8.sub⟩
  clear N9 F9 J9 CB8 ilB9
  k_steps
  exact TurnEnd.intro (fix := [x1, x2]) F10 N10 (fun p hp => by rw [← hI]; exact (J10.head p (List.mem_cons_of_mem _ hp)).symm) (hJn _ _ _ _ _ _ _ _ _ _ rfl rfl J10 CA9 CB9)
end Mine

-- part ZE
namespace Mine
-- the walker keeps the rules that it found as long as their number stays: a step under no local rule makes it look anew
theorem anewZE {w : PySem.World} {A : PySem.Around} {E : PySem.Value → PySem.Shared → Prop} {Q : PySem.Flow → PySem.Shared → Prop} {s : PySem.Shared} {env : PySem.Env} (h : PySem.wpAny (PySem.model PySem.Challenge.rw_aa5017_01.row.prog w) A (PySem.execs [] env) Q E s) :
    PySem.wpAny (PySem.model PySem.Challenge.rw_aa5017_01.row.prog w) A (PySem.execs [] env) Q E s := by
  first | (walk1; fail) | exact h
end Mine
open PySem PySem.W PyProof.Rows PySem.Calls PySem.Builtin PySem.Builtin.ObjectAttr
set_option Elab.async false
set_option maxRecDepth 100000
namespace Mine
local macro_rules | `(tactic| walk_at "getMethod type:list") => `(tactic| (k_here; refine' method_type ?F ?X ?m (by decide +kernel) ?e ?h ?_; (case F => k_asm); (case X => k_asm); (case m => exact meta_list); (case e => k_dflt k_is); (case h => k_handed)))
local macro_rules | `(tactic| k_inst) => `(tactic| (refine' inst_il ?N ?h1 ?h2; (case N => k_asm); (case h1 => k_mem); (case h2 => k_mem)))
local macro_rules | `(tactic| walk_at "getAttr ref") => `(tactic| (k_here; k_dflt (refine' getOwn_il ?k1 ?k2 ?k3 ?k4 ?k5 ?k6 ?k7 ?_; (case k1 => k_asm); (case k2 => k_asm); (case k3 => k_inst); (case k4 => k_is); (case k5 => k_is); (case k6 => k_get); (case k7 => k_handed); k_whole)))
local macro_rules | `(tactic| walk_at "getMethod ref") => `(tactic| (k_here; k_dflt (refine' method_il ?k1 ?k2 ?k3 ?k4 ?k5 ?k6 ?_; (case k1 => k_asm); (case k2 => k_asm); (case k3 => k_inst); (case k4 => k_is); (case k5 => k_is); (case k6 => k_get); k_whole)))
local macro_rules | `(tactic| walk_at "call builtin:len") => `(tactic| (k_here; (with_reducible show wpAny _ _ (call (Value.builtin "len") [Value.ref _]) _ _ _); k_dflt (refine' lenK_il ?k1 ?k2 ?k3 ?k4 ?_; (case k1 => k_asm); (case k2 => k_asm); (case k3 => k_inst); (case k4 => omega); k_whole)))
local macro_rules | `(tactic| walk_at "call builtin:list.append") => `(tactic| (k_here; k_dflt (refine' append_il ?k1 ?k2 ?k3 ?k4 ?k5 ?k6 ?_; (case k1 => k_asm); (case k2 => k_asm); (case k3 => k_asm); (case k4 => k_inst); (case k5 => k_upd); (case k6 => omega); k_whole; intro h' F' N'; k_sweep)))
local macro_rules | `(tactic| walk_at "compareOp NotIn") => `(tactic| (k_here; k_dflt (refine' notIn_K ?k1 ?k2 ?k3 ?k4 ?k5 ?k6 ?k7 ?k8 ?_; (case k1 => k_asm); (case k2 => k_asm); (case k3 => k_asm); (case k4 => k_mem); (case k5 => assumption); (case k6 => assumption); (case k7 => assumption); (case k8 => ((try simp only [units_in1, units_deeper]); (try dsimp only); omega)); k_whole; intro tk')))
local macro_rules | `(tactic| walk_at "setItem ref int") => `(tactic| (k_here; k_dflt (refine' setItem_K ?k1 ?k2 ?k3 ?k4 ?k5 ?k6 ?k7 ?k8 ?k9 ?k10 ?_; (case k1 => k_asm); (case k2 => k_asm); (case k3 => k_updF); (case k4 => k_asm); (case k5 => assumption); (case k6 => assumption); (case k7 => ((try simp only [units_in1, units_deeper]); (try dsimp only); omega)); (case k8 => omega); (case k9 => first | assumption | exact notMem_of (by assumption)); (case k10 => omega); k_whole; intro h' od' tk' D' F' N'; k_sweep)))

local macro_rules | `(tactic| walk_at "setAttr ref ref") => `(tactic| (k_here; k_dflt (refine' set_il ?k1 ?k2 ?k3 ?k4 ?k5 ?k6 ?k7 ?k8 ?k9 ?_; (case k1 => k_asm); (case k2 => k_asm); (case k3 => k_asm); (case k4 => k_inst); (case k5 => k_is); (case k6 => k_get); (case k7 => k_put); (case k8 => k_upd); (case k9 => exact Nat.le_of_ble_eq_true rfl); k_whole; intro h' F' N'; k_sweep)))
local macro_rules | `(tactic| walk_at "setAttr ref bool") => `(tactic| (k_here; k_dflt (refine' set_il ?k1 ?k2 ?k3 ?k4 ?k5 ?k6 ?k7 ?k8 ?k9 ?_; (case k1 => k_asm); (case k2 => k_asm); (case k3 => k_asm); (case k4 => k_inst); (case k5 => k_is); (case k6 => k_get); (case k7 => k_put); (case k8 => k_upd); (case k9 => exact Nat.le_of_ble_eq_true rfl); k_whole; intro h' F' N'; k_sweep)))
local macro_rules | `(tactic| walk_at "eval Dict nil nil") => `(tactic| (k_here; k_dflt (refine' dict_nil ?k1 ?k2 ?k3 ?_; (case k1 => k_asm); (case k2 => k_asm); (case k3 => k_asm); k_whole; intro d' h' F' N' l1 lo' lb'; (try k_lt l1); k_sweep)))
local macro_rules | `(tactic| walk_at "exec For Name Call cons nil") => `(tactic| (k_here; (rename Fr _ _ _ _ => lF'); (with_unfolding_all refine' For_invVF lF' ?k1 ?k2 ?_; (case k1 => exact rfl); (case k2 => exact rfl); k_whole)))
local macro_rules | `(tactic| walk_at "execs cons If nil") => `(tactic| (k_here; refine wpAny_execs_cons ?_))
local macro_rules | `(tactic| walk_at "exec If") => `(tactic| (k_here; refine wpAny_If ?_))
local macro_rules | `(tactic| walk_at "execs cons Expr nil") => `(tactic| (k_here; refine wpAny_execs_cons ?_))
local macro_rules | `(tactic| walk_at "execs nil") => `(tactic| (refine wpAny_execs_nil ?_; (try dsimp only)))
local macro_rules | `(tactic| walk_at "compareOp NotIn ref") => `(tactic| (k_here; refine Stop.intro ?_))
local macro_rules | `(tactic| walk_at "compareOp NotIn") => `(tactic| (k_here; refine Stop.intro ?_))
local macro_rules | `(tactic| walk_at "compareOp In ref") => `(tactic| (k_here; refine Stop.intro ?_))
local macro_rules | `(tactic| walk_at "compareOp In") => `(tactic| (k_here; refine Stop.intro ?_))
local macro_rules | `(tactic| walk_at "call builtin:list.append") => `(tactic| (k_here; refine Stop.intro ?_))
local macro_rules | `(tactic| walk_at "call builtin:list.index") => `(tactic| (k_here; refine Stop.intro ?_))
local macro_rules | `(tactic| walk_at "call ref cons") => `(tactic| (k_here; refine Stop.intro ?_))
local macro_rules | `(tactic| walk_at "call builtin:len") => `(tactic| (k_here; refine Stop.intro ?_))
local macro_rules | `(tactic| walk_at "binaryOp Add ref ref") => `(tactic| (k_here; refine Stop.intro ?_))
theorem fillsZE : True ∧ (PySem.Challenge.rw_aa5017_01, hd.heap_39) = (PySem.Challenge.rw_aa5017_01, hd.heap_39) := ⟨trivial, by k_fill; rfl⟩
theorem allLt_mem {d : Nat} : ∀ {l : Led}, AllLt d l → ∀ p ∈ l, @LT.lt Nat _ p.1 d
  | [], _, _, h => nomatch h
  | _ :: _, h, p, hp => (List.mem_cons.mp hp).elim (fun e => e ▸ h.1) fun hp => allLt_mem h.2 p hp
/-- the datum (9, 9) -/
def x9 : Dt := .inr [.inl 9, .inl 9]
theorem not9 : x9 ∉ vals12 := by
  unfold vals12 x9
  simp
theorem ok9 : okD x9 := by unfold okD; decide +kernel
theorem perm9 {f r : Led} {x e : Addr × Obj} : (f ++ x :: e :: r).Perm (e :: (f ++ x :: r)) := by
  have := List.perm_middle (l₁ := f ++ [x]) (a := e) (l₂ := r)
  simpa using this
theorem at_end {ds : List Dt} {x : Dt} {i : Nat} (hn : inD x ds = false) (h : (ds ++ [x])[i]? = some x) : i = ds.length := by
  have hlt : i < (ds ++ [x]).length := (List.getElem?_eq_some_iff.mp h).1
  rw [List.length_append] at hlt
  have : ¬ i < ds.length := fun hl => by
    rw [List.getElem?_append_left hl] at h
    rw [inD_true (List.mem_of_getElem? h)] at hn
    cases hn
  simp only [List.length_cons, List.length_nil] at hlt
  omega
set_option maxHeartbeats 40000000 in
theorem law_last {w : World} {h₀ : Heap} {s : Shared} {L fa : Addr} {cd : Value} {mean : ExcName → Option Value} {mg mb : Str → Option Value} {E : Value → Shared → Prop}
    {name qual : Str} {params : Arguments} {body lb : List Stmt} {scope : Scope} {dV kV doc pm cdv ct oc : Value} {an odd : Option Addr} {osl : Array (Option Value)}
    {P : Addr → Obj → Prop} {a e : Addr} {fp rest : Led} {dv : List Value} {c : Nat} {ds : List Dt} {m0 : Str → Option Value}
    (ho : (hd.heap_39 w.params).lookup 98 = some ⟨oc, odd, .func (fnOf name qual params body scope dV kV doc pm an cdv ct), osl⟩) (hlb : bodyAt body 6 = lb)
    (K0 : Below callerA h₀ [] h₀) (X₀ : (hd.heap_39 w.params).In h₀) (T : TP mean mg mb h₀)
    (C : Cell w P a fp dv ds) (hP : ∀ b o, P b o → (b, o) ∈ rest)
    (F : Fr h₀ L s.heap (fun y => if y = Str.ofString "due" then some (.ref e) else if y = Str.ofString "told" then some (.ref a) else m0 y))
    (N : News h₀ L s.heap ((e, W.listOf dv.toArray c) :: (fp ++ rest))) (J : Dj ((e, W.listOf dv.toArray c) :: (fp ++ rest))) :
    wpAny (model pg w) (callerA.deeper (envOf qual scope L fa cd)) (execs lb (envOf qual scope L fa cd))
      (Then h₀ L s (fun m' news' => ∃ u fp', m' = (fun y => if y = Str.ofString "made" then u else if y = Str.ofString "due" then some (.ref e) else if y = Str.ofString "told" then some (.ref a) else m0 y) ∧
        news' = (e, W.listOf (List.toArray dv) c) :: (fp' ++ rest) ∧ Dj news' ∧ Cell w P a fp' dv ds)) E s := by
  have fill : (PySem.Challenge.rw_aa5017_01, hd.heap_39) = (PySem.Challenge.rw_aa5017_01, hd.heap_39) := by k_fill; rfl
  have ho2 := ho.symm.trans (show (hd.heap_39 w.params).lookup 98 = some ⟨_, _, .func (fnOf _ _ _ _ _ _ _ _ _ _ _ _), _⟩ by k_is)
  simp only [Option.some.injEq, Obj.mk.injEq, Data.func.injEq, fnOf] at ho2
  obtain ⟨-, -, hf, -⟩ := ho2
  have hq : qual = _ := congrArg FuncData.qualname hf
  have hb := congrArg FuncData.body hf
  have hs : scope = _ := congrArg FuncData.scope hf
  dsimp only at hq hb hs
  injection hb with hb
  subst hq hs hb
  subst hlb
  clear hf ho
  show wpAny _ _ (execs [_, _] _) _ _ _
  have hle := C.len
  have hok := C.ok
  have hnd := C.nodup
  have pm1 : ∀ {fp : Led} {q : Addr × Obj}, (q :: (fp ++ rest)).Perm (fp ++ q :: rest) := List.perm_middle.symm
  have hPI : PIn P h₀ ((e, W.listOf dv.toArray c) :: (fp ++ rest)) := fun b o q _ => .inr (.tail _ (List.mem_append_right _ (hP b o q)))
  (try k_fold)
  k_steps
  show wpAny _ _ _ _ _ _
  refine new1_C (rest := (e, W.listOf dv.toArray c) :: (fp ++ rest)) C.il hle (fun q hq => .tail _ (List.mem_append_left _ hq)) K0 F X₀ T rfl rfl (by decide) (by decide) N J hPI fun h1 tk1 ma fm F1 N1 J1 il1 => ?_
  clear N F
  k_steps
  show wpAny _ _ _ _ _ _
  rename News _ _ _ _ => N2
  rename Fr _ _ _ _ => F2
  refine so_C il1 C.dens (.head _) hok K0 F2 X₀ T rfl rfl (by decide) (by decide) N2 J1 hPI hle fun h3 tk3 fm3 F3 N3 J3 il3 => ?_
  clear N2 F2 J1 il1
  obtain ⟨ns, d, items, n, t1, t2, b, od, rfl, -, -, -⟩ := id il3
  simp only [List.cons_append, List.nil_append] at N3
  k_steps
  show wpAny _ _ _ _ _ _
  rename_i D h4 F4 N4 l4
  replace l4 : AllLt D ((ma, ilObj ns items n) :: (ns, nsObj w t1 t2 b d) :: (d, od) :: (e, W.listOf dv.toArray c) :: (fp ++ rest)) := l4
  generalize hot : ({ cls := Value.type "tuple", data := Data.seq #[Value.int 9 tk3, Value.int 9 (tk3 + 1)] } : Obj) = ot at *
  have J4 : Dj ((D, ot) :: ([(ma, ilObj ns items n), (ns, nsObj w t1 t2 b d), (d, od)] ++ (e, W.listOf dv.toArray c) :: (fp ++ rest))) := J3.cons fun q hq => (Nat.ne_of_lt (allLt_mem l4 q hq)).symm
  have il4 : IL w (fun b o => P b o ∨ (b, o) = (D, ot)) ma _ ds := il3.mono fun _ _ h _ => .inl h
  have hx9 : DenP pg w (fun b o => P b o ∨ (b, o) = (D, ot)) (.ref D) x9 := ⟨_, rfl, _, _, _, .inr rfl, by rw [← hot], by rw [← hot], .cons (by simp [atKind, isAt, Value.isInt]) (.cons (by simp [atKind, isAt, Value.isInt]) .nil)⟩
  have hn9 : inD x9 ds = false := inD_false fun h => not9 (C.sub _ h)
  refine add_C (rest := (D, ot) :: (e, W.listOf dv.toArray c) :: (fp ++ rest)) il4 K0 F4 X₀ T rfl rfl (by decide) (by decide) (permN N4 (List.perm_middle (l₁ := [_, _, _])).symm) (J4.perm (List.perm_middle (l₁ := [_, _, _])).symm)
    (fun b o q z => q.elim (fun q => (hPI b o q z).imp id (.tail _)) fun q => .inr (by rw [q]; exact .head _)) hx9 hle fun h5 tk5 fm5 i ti F5 N5 J5 il5 hi => ?_
  rw [addD_out hn9] at il5 hi
  clear N4 F4 J3 J4 il3 il4 l4
  k_steps
  show wpAny _ _ _ _ _ _
  have hil : i = dv.length := by rw [C.dens.length]; exact at_end hn9 hi
  subst hil
  have N6 : News h₀ L h5 ((e, W.listOf dv.toArray c) :: (fm5 ++ (D, ot) :: (fp ++ rest))) := permN N5 perm9
  have J6 : Dj ((e, W.listOf dv.toArray c) :: (fm5 ++ (D, ot) :: (fp ++ rest))) := J5.perm perm9
  clear N5 J5 hi
  refine len_L (N6 _ (.head _)).1 (by rw [C.dens.length]; exact hle) ?_
  k_steps
  · rename_i hne; exact absurd rfl hne
  show wpAny _ _ _ _ _ _
  rename_i D2 h6 l6 l7 h7 F7 N7 l8
  replace l6 : AllLt D2 ((e, W.listOf dv.toArray c) :: (fm5 ++ (D, ot) :: (fp ++ rest))) := l6
  generalize hot2 : ({ cls := Value.type "tuple", data := Data.seq #[Value.int 9 (tk5 + 1 + 1), Value.int 9 (tk5 + 1 + 1 + 1)] } : Obj) = ot2 at *
  replace l8 : AllLt l7 ((D2, ot2) :: (e, W.listOf dv.toArray c) :: (fm5 ++ (D, ot) :: (fp ++ rest))) := l8
  have J7 : Dj ((l7, W.listOf [Value.ref D2].toArray 0) :: (D2, ot2) :: (e, W.listOf dv.toArray c) :: (fm5 ++ (D, ot) :: (fp ++ rest))) := Dj.cons (Dj.cons J6 fun q hq => (Nat.ne_of_lt (allLt_mem l6 q hq)).symm) fun q hq => (Nat.ne_of_lt (allLt_mem l8 q hq)).symm
  refine kmk_add_lit F7 N7 (N7.isList (.tail _ (.tail _ (.head _)))) (N7.isList (.head _)) (show _ = dv ++ [Value.ref D2] from rfl) (fun D3 h8 F8 N8 lt8 => ?_) (by rw [sizeLine_eq, C.dens.length]; simp only [List.length_cons, List.length_nil]; omega)
  have J8 : Dj ((D3, W.listOf (dv ++ [Value.ref D2]).toArray 0) :: (l7, W.listOf [Value.ref D2].toArray 0) :: (D2, ot2) :: (e, W.listOf dv.toArray c) :: (fm5 ++ (D, ot) :: (fp ++ rest))) := J7.cons fun q hq => (Nat.ne_of_lt (lt8 q hq)).symm
  have il8 : IL w (fun b o => (P b o ∨ (b, o) = (D, ot)) ∨ (b, o) = (D2, ot2)) ma fm5 (ds ++ [x9]) := il5.mono fun _ _ h _ => .inl h
  have hx8 : DenP pg w (fun b o => (P b o ∨ (b, o) = (D, ot)) ∨ (b, o) = (D2, ot2)) (.ref D2) x9 := ⟨_, rfl, _, _, _, .inr rfl, by rw [← hot2], by rw [← hot2], .cons (by simp [atKind, isAt, Value.isInt]) (.cons (by simp [atKind, isAt, Value.isInt]) .nil)⟩
  have hV8 : Dens w (fun b o => (P b o ∨ (b, o) = (D, ot)) ∨ (b, o) = (D2, ot2)) (dv ++ [Value.ref D2]) (ds ++ [x9]) := (C.dens.mono fun _ _ h _ => .inl (.inl h)).snoc hx8
  have hl8 : (ds ++ [x9]).length ≤ 1000 := by
    have := bound_of C.nodup C.sub
    rw [List.length_append]
    exact Nat.le_trans (Nat.add_le_add_right this _) (Nat.le_of_ble_eq_true rfl)
  clear N7 F7 J6 J7 l6 l8 lt8
  k_steps
  show wpAny _ _ _ _ _ _
  refine so_C (rest := (D3, W.listOf (dv ++ [Value.ref D2]).toArray 0) :: (l7, W.listOf [Value.ref D2].toArray 0) :: (D2, ot2) :: (e, W.listOf dv.toArray c) :: (D, ot) :: (fp ++ rest)) il8 hV8 (.head _)
    (fun y hy => (List.mem_append.mp hy).elim (hok y) fun h => by rw [List.mem_singleton.mp h]; exact ok9) K0 F8 X₀ T rfl rfl (by decide) (by decide) (permN N8 (List.perm_append_comm_assoc [_, _, _, _] fm5 _)) (J8.perm (List.perm_append_comm_assoc [_, _, _, _] fm5 _))
    (fun b o q z => .inr ?_) hl8 fun h9 tk9 fm9 F9 N9 J9 il9 => ?_
  · rcases q with (q | q) | q
    · exact .tail _ (.tail _ (.tail _ (.tail _ (.tail _ (List.mem_append_right _ (hP b o q))))))
    · rw [q]; exact .tail _ (.tail _ (.tail _ (.tail _ (.head _))))
    · rw [q]; exact .tail _ (.tail _ (.head _))
  have N10 : News h₀ L h9 (fp ++ (e, W.listOf dv.toArray c) :: rest) := subN N9 fun q hq => by
    simp only [List.mem_append, List.mem_cons] at hq ⊢
    rcases hq with h | h | h <;> simp [h]
  clear N9 J9 il9 il8 hV8 hx8 N8 F8 J8
  k_steps
  show wpAny _ _ _ _ _ _
  refine so_C (rest := (e, W.listOf dv.toArray c) :: rest) C.il C.dens (.head _) hok K0 F9 X₀ T rfl rfl (by decide) (by decide) N10 (J.perm pm1) (fun b o q _ => .inr (.tail _ (hP b o q))) hle fun h11 tk11 fp' F11 N11 J11 il11 => ?_
  k_steps
  exact Then.intro F11 (permN N11 pm1.symm) ⟨_, fp', rfl, rfl, J11.perm pm1.symm, il11, C.dens, C.sub⟩
end Mine

-- part ZG
namespace Mine
-- the walker keeps the rules that it found as long as their number stays: a step under no local rule makes it look anew
theorem anewZG {w : PySem.World} {A : PySem.Around} {E : PySem.Value → PySem.Shared → Prop} {Q : PySem.Flow → PySem.Shared → Prop} {s : PySem.Shared} {env : PySem.Env} (h : PySem.wpAny (PySem.model PySem.Challenge.rw_aa5017_01.row.prog w) A (PySem.execs [] env) Q E s) :
    PySem.wpAny (PySem.model PySem.Challenge.rw_aa5017_01.row.prog w) A (PySem.execs [] env) Q E s := by
  first | (walk1; fail) | exact h
end Mine
open PySem PySem.W PyProof.Rows PySem.Calls PySem.Builtin PySem.Builtin.ObjectAttr
set_option Elab.async false
set_option maxRecDepth 100000
namespace Mine
local macro_rules | `(tactic| walk_at "getMethod type:list") => `(tactic| (k_here; refine' method_type ?F ?X ?m (by decide +kernel) ?e ?h ?_; (case F => k_asm); (case X => k_asm); (case m => exact meta_list); (case e => k_dflt k_is); (case h => k_handed)))
local macro_rules | `(tactic| k_inst) => `(tactic| (refine' inst_il ?N ?h1 ?h2; (case N => k_asm); (case h1 => k_mem); (case h2 => k_mem)))
local macro_rules | `(tactic| walk_at "getAttr ref") => `(tactic| (k_here; k_dflt (refine' getOwn_il ?k1 ?k2 ?k3 ?k4 ?k5 ?k6 ?k7 ?_; (case k1 => k_asm); (case k2 => k_asm); (case k3 => k_inst); (case k4 => k_is); (case k5 => k_is); (case k6 => k_get); (case k7 => k_handed); k_whole)))
local macro_rules | `(tactic| walk_at "getMethod ref") => `(tactic| (k_here; k_dflt (refine' method_il ?k1 ?k2 ?k3 ?k4 ?k5 ?k6 ?_; (case k1 => k_asm); (case k2 => k_asm); (case k3 => k_inst); (case k4 => k_is); (case k5 => k_is); (case k6 => k_get); k_whole)))
local macro_rules | `(tactic| walk_at "call builtin:len") => `(tactic| (k_here; (with_reducible show wpAny _ _ (call (Value.builtin "len") [Value.ref _]) _ _ _); k_dflt (refine' lenK_il ?k1 ?k2 ?k3 ?k4 ?_; (case k1 => k_asm); (case k2 => k_asm); (case k3 => k_inst); (case k4 => omega); k_whole)))
local macro_rules | `(tactic| walk_at "call builtin:list.append") => `(tactic| (k_here; k_dflt (refine' append_il ?k1 ?k2 ?k3 ?k4 ?k5 ?k6 ?_; (case k1 => k_asm); (case k2 => k_asm); (case k3 => k_asm); (case k4 => k_inst); (case k5 => k_upd); (case k6 => omega); k_whole; intro h' F' N'; k_sweep)))
local macro_rules | `(tactic| walk_at "compareOp NotIn") => `(tactic| (k_here; k_dflt (refine' notIn_K ?k1 ?k2 ?k3 ?k4 ?k5 ?k6 ?k7 ?k8 ?_; (case k1 => k_asm); (case k2 => k_asm); (case k3 => k_asm); (case k4 => k_mem); (case k5 => assumption); (case k6 => assumption); (case k7 => assumption); (case k8 => ((try simp only [units_in1, units_deeper]); (try dsimp only); omega)); k_whole; intro tk')))
local macro_rules | `(tactic| walk_at "setItem ref int") => `(tactic| (k_here; k_dflt (refine' setItem_K ?k1 ?k2 ?k3 ?k4 ?k5 ?k6 ?k7 ?k8 ?k9 ?k10 ?_; (case k1 => k_asm); (case k2 => k_asm); (case k3 => k_updF); (case k4 => k_asm); (case k5 => assumption); (case k6 => assumption); (case k7 => ((try simp only [units_in1, units_deeper]); (try dsimp only); omega)); (case k8 => omega); (case k9 => first | assumption | exact notMem_of (by assumption)); (case k10 => omega); k_whole; intro h' od' tk' D' F' N'; k_sweep)))

local macro_rules | `(tactic| walk_at "setAttr ref ref") => `(tactic| (k_here; k_dflt (refine' set_il ?k1 ?k2 ?k3 ?k4 ?k5 ?k6 ?k7 ?k8 ?k9 ?_; (case k1 => k_asm); (case k2 => k_asm); (case k3 => k_asm); (case k4 => k_inst); (case k5 => k_is); (case k6 => k_get); (case k7 => k_put); (case k8 => k_upd); (case k9 => exact Nat.le_of_ble_eq_true rfl); k_whole; intro h' F' N'; k_sweep)))
local macro_rules | `(tactic| walk_at "setAttr ref bool") => `(tactic| (k_here; k_dflt (refine' set_il ?k1 ?k2 ?k3 ?k4 ?k5 ?k6 ?k7 ?k8 ?k9 ?_; (case k1 => k_asm); (case k2 => k_asm); (case k3 => k_asm); (case k4 => k_inst); (case k5 => k_is); (case k6 => k_get); (case k7 => k_put); (case k8 => k_upd); (case k9 => exact Nat.le_of_ble_eq_true rfl); k_whole; intro h' F' N'; k_sweep)))
local macro_rules | `(tactic| walk_at "eval Dict nil nil") => `(tactic| (k_here; k_dflt (refine' dict_nil ?k1 ?k2 ?k3 ?_; (case k1 => k_asm); (case k2 => k_asm); (case k3 => k_asm); k_whole; intro d' h' F' N' l1 lo' lb'; (try k_lt l1); k_sweep)))
local macro_rules | `(tactic| walk_at "exec For Name Call cons nil") => `(tactic| (k_here; (rename Fr _ _ _ _ => lF'); (with_unfolding_all refine' For_invVF lF' ?k1 ?k2 ?_; (case k1 => exact rfl); (case k2 => exact rfl); k_whole)))
local macro_rules | `(tactic| walk_at "execs cons If nil") => `(tactic| (k_here; refine wpAny_execs_cons ?_))
local macro_rules | `(tactic| walk_at "exec If") => `(tactic| (k_here; refine wpAny_If ?_))
local macro_rules | `(tactic| walk_at "execs cons Expr nil") => `(tactic| (k_here; refine wpAny_execs_cons ?_))
local macro_rules | `(tactic| walk_at "execs nil") => `(tactic| (refine wpAny_execs_nil ?_; (try dsimp only)))
local macro_rules | `(tactic| walk_at "compareOp NotIn ref") => `(tactic| (k_here; refine Stop.intro ?_))
local macro_rules | `(tactic| walk_at "compareOp NotIn") => `(tactic| (k_here; refine Stop.intro ?_))
local macro_rules | `(tactic| walk_at "compareOp In ref") => `(tactic| (k_here; refine Stop.intro ?_))
local macro_rules | `(tactic| walk_at "compareOp In") => `(tactic| (k_here; refine Stop.intro ?_))
local macro_rules | `(tactic| walk_at "call builtin:list.append") => `(tactic| (k_here; refine Stop.intro ?_))
local macro_rules | `(tactic| walk_at "call builtin:list.index") => `(tactic| (k_here; refine Stop.intro ?_))
local macro_rules | `(tactic| walk_at "call ref cons") => `(tactic| (k_here; refine Stop.intro ?_))
local macro_rules | `(tactic| walk_at "call type:zip") => `(tactic| (k_here; refine Stop.intro ?_))
local macro_rules | `(tactic| walk_at "execs cons Assign cons") => `(tactic| (k_here; refine Stop.intro ?_))
theorem fillsZG : True ∧ (PySem.Challenge.rw_aa5017_01, hd.heap_39) = (PySem.Challenge.rw_aa5017_01, hd.heap_39) := ⟨trivial, by k_fill; rfl⟩
theorem dj_addr {l l' : Led} (h : Dj l) (e : l'.map (·.1) = l.map (·.1)) : Dj l' := by
  have k : (l.map (·.1)).Pairwise (fun a b => @Ne Nat a b) := List.pairwise_map.mpr h
  rw [← e] at k
  exact List.pairwise_map.mp k
theorem dj_its {I : Nat} {o1 o2 o3 o4 o5 : Obj} {news : Led} (J : Dj news) (h : ∀ p ∈ news, @LT.lt Nat _ p.1 I) : Dj ((I + 4, o1) :: (I + 2, o2) :: (I + 3, o3) :: (I, o4) :: (I + 1, o5) :: news) := by
  have k : ∀ n : Nat, ∀ q ∈ news, @Ne Nat (I + n) q.1 := fun n q hq e => by
    have hlt := h q hq
    rw [← e] at hlt
    exact absurd hlt (Nat.not_lt.mpr (Nat.le_add_right I n))
  have z : ∀ a b : Nat, a ≠ b → @Ne Nat (I + a) (I + b) := fun a b hn e => hn (Nat.add_left_cancel e)
  have z0 : ∀ a : Nat, a ≠ 0 → @Ne Nat (I + a) I := fun a hn e => hn (by omega)
  refine Dj.cons (Dj.cons (Dj.cons (Dj.cons (Dj.cons J (k 1)) ?_) ?_) ?_) ?_
  · intro q hq
    rcases List.mem_cons.mp hq with rfl | hq
    · exact (z0 1 (by decide)).symm
    · exact k 0 q hq
  · intro q hq
    rcases List.mem_cons.mp hq with rfl | hq
    · exact z0 3 (by decide)
    rcases List.mem_cons.mp hq with rfl | hq
    · exact z 3 1 (by decide)
    · exact k 3 q hq
  · intro q hq
    rcases List.mem_cons.mp hq with rfl | hq
    · exact z 2 3 (by decide)
    rcases List.mem_cons.mp hq with rfl | hq
    · exact z0 2 (by decide)
    rcases List.mem_cons.mp hq with rfl | hq
    · exact z 2 1 (by decide)
    · exact k 2 q hq
  · intro q hq
    rcases List.mem_cons.mp hq with rfl | hq
    · exact z 4 2 (by decide)
    rcases List.mem_cons.mp hq with rfl | hq
    · exact z 4 3 (by decide)
    rcases List.mem_cons.mp hq with rfl | hq
    · exact z0 4 (by decide)
    rcases List.mem_cons.mp hq with rfl | hq
    · exact z 4 1 (by decide)
    · exact k 4 q hq
theorem permZA {i1 i2 i3 i4 i5 p d a b : Addr × Obj} {f r : Led} : (i1 :: i2 :: i3 :: i4 :: i5 :: p :: d :: a :: b :: (f ++ r)).Perm (a :: (f ++ (i1 :: i2 :: i3 :: i4 :: i5 :: p :: d :: b :: r))) :=
  (List.perm_middle (l₁ := [i1, i2, i3, i4, i5, p, d]) (a := a) (l₂ := b :: (f ++ r))).trans (.cons a (List.perm_append_comm_assoc [i1, i2, i3, i4, i5, p, d, b] f r))
theorem permZB {i1 i2 i3 i4 i5 p d a b : Addr × Obj} {g f r : Led} : (i1 :: i2 :: i3 :: i4 :: i5 :: p :: d :: a :: b :: (g ++ (f ++ r))).Perm (b :: (f ++ (i1 :: i2 :: i3 :: i4 :: i5 :: p :: d :: a :: (g ++ r)))) := by
  refine (List.perm_middle (l₁ := [i1, i2, i3, i4, i5, p, d, a]) (a := b) (l₂ := g ++ (f ++ r))).trans (.cons b ?_)
  have := List.perm_append_comm_assoc ([i1, i2, i3, i4, i5, p, d, a] ++ g) f r
  simpa using this
set_option maxHeartbeats 40000000 in
theorem law_zip {w : World} {h₀ : Heap} {s : Shared} {L fa : Addr} {cd : Value} {mean : ExcName → Option Value} {mg mb : Str → Option Value} {E : Value → Shared → Prop}
    {name qual : Str} {params : Arguments} {body : List Stmt} {st : Stmt} {scope : Scope} {dV kV doc pm cdv ct oc : Value} {an odd : Option Addr} {osl : Array (Option Value)}
    {aA aB eA eB pr du : Addr} {fpA fpB tups : Led} {dvA dvB : List Value} {cA cB cp cq : Nat} {dsA dsB : List Dt} {m0 : Str → Option Value}
    (ho : (hd.heap_39 w.params).lookup 98 = some ⟨oc, odd, .func (fnOf name qual params body scope dV kV doc pm an cdv ct), osl⟩) (hst : body[6]? = some st)
    (K0 : Below callerA h₀ [] h₀) (X₀ : (hd.heap_39 w.params).In h₀) (T : TP mean mg mb h₀)
    (CA : Cell w (fun b o => (b, o) ∈ tups) aA fpA dvA dsA) (CB : Cell w (fun b o => (b, o) ∈ tups) aB fpB dvB dsB)
    (F : Fr h₀ L s.heap (fun y => if y = Str.ofString "pair" then some (.ref pr) else if y = Str.ofString "dues" then some (.ref du) else m0 y))
    (N : News h₀ L s.heap ((pr, W.listOf [.ref aA, .ref aB].toArray cp) :: (du, W.listOf [.ref eA, .ref eB].toArray cq) :: (eA, W.listOf dvA.toArray cA) :: (eB, W.listOf dvB.toArray cB) :: (fpA ++ (fpB ++ tups))))
    (J : Dj ((pr, W.listOf [.ref aA, .ref aB].toArray cp) :: (du, W.listOf [.ref eA, .ref eB].toArray cq) :: (eA, W.listOf dvA.toArray cA) :: (eB, W.listOf dvB.toArray cB) :: (fpA ++ (fpB ++ tups))))
    (hE : PassesOwn (model pg w) (callerA.deeper (envOf qual scope L fa cd)) (envOf qual scope L fa cd) E) :
    wpAny (model pg w) (callerA.deeper (envOf qual scope L fa cd)) (exec st (envOf qual scope L fa cd)) (Then h₀ L s (fun _ _ => True)) E s := by
  have fill : (PySem.Challenge.rw_aa5017_01, hd.heap_39) = (PySem.Challenge.rw_aa5017_01, hd.heap_39) := by k_fill; rfl
  have ho' := ho
  have ho2 := ho.symm.trans (show (hd.heap_39 w.params).lookup 98 = some ⟨_, _, .func (fnOf _ _ _ _ _ _ _ _ _ _ _ _), _⟩ by k_is)
  simp only [Option.some.injEq, Obj.mk.injEq, Data.func.injEq, fnOf] at ho2
  obtain ⟨-, -, hf, -⟩ := ho2
  have hq : qual = _ := congrArg FuncData.qualname hf
  have hb := congrArg FuncData.body hf
  have hs : scope = _ := congrArg FuncData.scope hf
  dsimp only at hq hb hs
  injection hb with hb
  subst hq hs hb
  injection hst with hst
  subst hst
  clear hf ho
  (try k_fold)
  refine For_turns F ?_ (hE := hE)
  k_steps
  show wpAny _ _ _ _ _ _
  rename Fr _ _ _ _ => F1
  rename News _ _ _ _ => N1
  refine ktu_zip rfl F1 N1 (.head _) rfl rfl (.tail _ (.head _)) rfl rfl fun I hI => ?_
  simp only [zipItems]
  refine ItemsRest.pair fun T1 t1 h2 tk2 hT1 F2 => ?_
  refine AllObj.cons fun o1 _ => AllObj.cons fun o2 _ => AllObj.cons fun o3 _ => AllObj.cons fun o4 _ => AllObj.cons fun o5 _ => AllObj.nil fun N2 => ?_
  simp only [List.cons_append, List.nil_append] at N2
  have J2 := dj_its (o1 := o1) (o2 := o2) (o3 := o3) (o4 := o4) (o5 := o5) J hI
  dsimp only
  clear N1 F1
  k_steps
  show wpAny _ _ (execs [_, _] _) _ _ _
  rename_i F3 N3
  refine wpAny_mono (law_last (rest := (I + 4, o1) :: (I + 2, o2) :: (I + 3, o3) :: (I, o4) :: (I + 1, o5) :: (pr, W.listOf [.ref aA, .ref aB].toArray cp) :: (du, W.listOf [.ref eA, .ref eB].toArray cq) :: (eB, W.listOf dvB.toArray cB) :: (fpB ++ tups)) ho' rfl K0 X₀ T CA (fun b o q => by simp [q]) F3 (permN N3 permZA) (J2.perm permZA)) (fun f s2 hf => ?_) fun _ _ e => e
  obtain ⟨rfl, h4, tk4, m4, news4, rfl, F4, N4, u1, fpA2, rfl, rfl, J4, CA2⟩ := hf
  replace N4 := permN N4 (permZA).symm
  replace J4 := J4.perm (permZA).symm
  refine ⟨h4, tk4, _, (pr, W.listOf [.ref aA, .ref aB].toArray cp) :: (du, W.listOf [.ref eA, .ref eB].toArray cq) :: (eA, W.listOf dvA.toArray cA) :: (eB, W.listOf dvB.toArray cB) :: (fpA2 ++ (fpB ++ tups)), rfl, F4, N4, fun p hp q hq => (Dj.dis (l := [(I + 4, o1), (I + 2, o2), (I + 3, o3), (I, o4), (I + 1, o5)]) J4 q hq p hp).symm, ⟨.head _, .tail _ (.head _), trivial⟩, ?_⟩
  clear N3 F3 J2
  (try dsimp only)
  refine ItemsRest.pair fun T2 t2 h5 tk5 hT2 F5 => ?_
  refine AllObj.cons fun q1 _ => AllObj.cons fun q2 _ => AllObj.cons fun q3 _ => AllObj.cons fun q4 _ => AllObj.cons fun q5 _ => AllObj.nil fun N5 => ?_
  simp only [List.cons_append, List.nil_append] at N5
  have J5 := dj_addr (l' := (I + 4, q1) :: (I + 2, q2) :: (I + 3, q3) :: (I, q4) :: (I + 1, q5) :: (pr, W.listOf [.ref aA, .ref aB].toArray cp) :: (du, W.listOf [.ref eA, .ref eB].toArray cq) :: (eA, W.listOf dvA.toArray cA) :: (eB, W.listOf dvB.toArray cB) :: (fpA2 ++ (fpB ++ tups))) J4 rfl
  clear N4 F4 J4
  (try dsimp only)
  k_steps
  show wpAny _ _ (execs [_, _] _) _ _ _
  rename_i F3 N3
  refine wpAny_mono (law_last (rest := (I + 4, q1) :: (I + 2, q2) :: (I + 3, q3) :: (I, q4) :: (I + 1, q5) :: (pr, W.listOf [.ref aA, .ref aB].toArray cp) :: (du, W.listOf [.ref eA, .ref eB].toArray cq) :: (eA, W.listOf dvA.toArray cA) :: (fpA2 ++ tups)) ho' rfl K0 X₀ T CB (fun b o q => by simp [q]) F3 (permN N3 permZB) (J5.perm permZB)) (fun f s2 hf => ?_) fun _ _ e => e
  obtain ⟨rfl, h4, tk4, m4, news4, rfl, F4, N4, u2, fpB2, rfl, rfl, J4, CB2⟩ := hf
  replace N4 := permN N4 (permZB).symm
  replace J4 := J4.perm (permZB).symm
  refine ⟨h4, tk4, _, (pr, W.listOf [.ref aA, .ref aB].toArray cp) :: (du, W.listOf [.ref eA, .ref eB].toArray cq) :: (eA, W.listOf dvA.toArray cA) :: (eB, W.listOf dvB.toArray cB) :: (fpA2 ++ (fpB2 ++ tups)), rfl, F4, N4, fun p hp q hq => (Dj.dis (l := [(I + 4, q1), (I + 2, q2), (I + 3, q3), (I, q4), (I + 1, q5)]) J4 q hq p hp).symm, ⟨.head _, .tail _ (.head _), trivial⟩, ?_⟩
  exact ItemsRest.zero fun h tk F N => Then.intro F N trivial
end Mine

-- part ZF
namespace Mine
-- the walker keeps the rules that it found as long as their number stays: a step under no local rule makes it look anew
theorem anewZF {w : PySem.World} {A : PySem.Around} {E : PySem.Value → PySem.Shared → Prop} {Q : PySem.Flow → PySem.Shared → Prop} {s : PySem.Shared} {env : PySem.Env} (h : PySem.wpAny (PySem.model PySem.Challenge.rw_aa5017_01.row.prog w) A (PySem.execs [] env) Q E s) :
    PySem.wpAny (PySem.model PySem.Challenge.rw_aa5017_01.row.prog w) A (PySem.execs [] env) Q E s := by
  first | (walk1; fail) | exact h
end Mine
open PySem PySem.W PyProof.Rows PySem.Calls PySem.Builtin PySem.Builtin.ObjectAttr
set_option Elab.async false
set_option maxRecDepth 100000
namespace Mine
local macro_rules | `(tactic| walk_at "getMethod type:list") => `(tactic| (k_here; refine' method_type ?F ?X ?m (by decide +kernel) ?e ?h ?_; (case F => k_asm); (case X => k_asm); (case m => exact meta_list); (case e => k_dflt k_is); (case h => k_handed)))
local macro_rules | `(tactic| k_inst) => `(tactic| (refine' inst_il ?N ?h1 ?h2; (case N => k_asm); (case h1 => k_mem); (case h2 => k_mem)))
local macro_rules | `(tactic| walk_at "getAttr ref") => `(tactic| (k_here; k_dflt (refine' getOwn_il ?k1 ?k2 ?k3 ?k4 ?k5 ?k6 ?k7 ?_; (case k1 => k_asm); (case k2 => k_asm); (case k3 => k_inst); (case k4 => k_is); (case k5 => k_is); (case k6 => k_get); (case k7 => k_handed); k_whole)))
local macro_rules | `(tactic| walk_at "getMethod ref") => `(tactic| (k_here; k_dflt (refine' method_il ?k1 ?k2 ?k3 ?k4 ?k5 ?k6 ?_; (case k1 => k_asm); (case k2 => k_asm); (case k3 => k_inst); (case k4 => k_is); (case k5 => k_is); (case k6 => k_get); k_whole)))
local macro_rules | `(tactic| walk_at "call builtin:len") => `(tactic| (k_here; (with_reducible show wpAny _ _ (call (Value.builtin "len") [Value.ref _]) _ _ _); k_dflt (refine' lenK_il ?k1 ?k2 ?k3 ?k4 ?_; (case k1 => k_asm); (case k2 => k_asm); (case k3 => k_inst); (case k4 => omega); k_whole)))
local macro_rules | `(tactic| walk_at "call builtin:list.append") => `(tactic| (k_here; k_dflt (refine' append_il ?k1 ?k2 ?k3 ?k4 ?k5 ?k6 ?_; (case k1 => k_asm); (case k2 => k_asm); (case k3 => k_asm); (case k4 => k_inst); (case k5 => k_upd); (case k6 => omega); k_whole; intro h' F' N'; k_sweep)))
local macro_rules | `(tactic| walk_at "compareOp NotIn") => `(tactic| (k_here; k_dflt (refine' notIn_K ?k1 ?k2 ?k3 ?k4 ?k5 ?k6 ?k7 ?k8 ?_; (case k1 => k_asm); (case k2 => k_asm); (case k3 => k_asm); (case k4 => k_mem); (case k5 => assumption); (case k6 => assumption); (case k7 => assumption); (case k8 => ((try simp only [units_in1, units_deeper]); (try dsimp only); omega)); k_whole; intro tk')))
local macro_rules | `(tactic| walk_at "setItem ref int") => `(tactic| (k_here; k_dflt (refine' setItem_K ?k1 ?k2 ?k3 ?k4 ?k5 ?k6 ?k7 ?k8 ?k9 ?k10 ?_; (case k1 => k_asm); (case k2 => k_asm); (case k3 => k_updF); (case k4 => k_asm); (case k5 => assumption); (case k6 => assumption); (case k7 => ((try simp only [units_in1, units_deeper]); (try dsimp only); omega)); (case k8 => omega); (case k9 => first | assumption | exact notMem_of (by assumption)); (case k10 => omega); k_whole; intro h' od' tk' D' F' N'; k_sweep)))

local macro_rules | `(tactic| walk_at "setAttr ref ref") => `(tactic| (k_here; k_dflt (refine' set_il ?k1 ?k2 ?k3 ?k4 ?k5 ?k6 ?k7 ?k8 ?k9 ?_; (case k1 => k_asm); (case k2 => k_asm); (case k3 => k_asm); (case k4 => k_inst); (case k5 => k_is); (case k6 => k_get); (case k7 => k_put); (case k8 => k_upd); (case k9 => exact Nat.le_of_ble_eq_true rfl); k_whole; intro h' F' N'; k_sweep)))
local macro_rules | `(tactic| walk_at "setAttr ref bool") => `(tactic| (k_here; k_dflt (refine' set_il ?k1 ?k2 ?k3 ?k4 ?k5 ?k6 ?k7 ?k8 ?k9 ?_; (case k1 => k_asm); (case k2 => k_asm); (case k3 => k_asm); (case k4 => k_inst); (case k5 => k_is); (case k6 => k_get); (case k7 => k_put); (case k8 => k_upd); (case k9 => exact Nat.le_of_ble_eq_true rfl); k_whole; intro h' F' N'; k_sweep)))
local macro_rules | `(tactic| walk_at "eval Dict nil nil") => `(tactic| (k_here; k_dflt (refine' dict_nil ?k1 ?k2 ?k3 ?_; (case k1 => k_asm); (case k2 => k_asm); (case k3 => k_asm); k_whole; intro d' h' F' N' l1 lo' lb'; (try k_lt l1); k_sweep)))
local macro_rules | `(tactic| walk_at "exec For Name Call cons nil") => `(tactic| (k_here; (rename Fr _ _ _ _ => lF'); (with_unfolding_all refine' For_invVF lF' ?k1 ?k2 ?_; (case k1 => exact rfl); (case k2 => exact rfl); k_whole)))
local macro_rules | `(tactic| walk_at "execs cons If nil") => `(tactic| (k_here; refine wpAny_execs_cons ?_))
local macro_rules | `(tactic| walk_at "exec If") => `(tactic| (k_here; refine wpAny_If ?_))
local macro_rules | `(tactic| walk_at "execs cons Expr nil") => `(tactic| (k_here; refine wpAny_execs_cons ?_))
local macro_rules | `(tactic| walk_at "execs nil") => `(tactic| (refine wpAny_execs_nil ?_; (try dsimp only)))
local macro_rules | `(tactic| walk_at "compareOp NotIn ref") => `(tactic| (k_here; refine Stop.intro ?_))
local macro_rules | `(tactic| walk_at "compareOp NotIn") => `(tactic| (k_here; refine Stop.intro ?_))
local macro_rules | `(tactic| walk_at "compareOp In ref") => `(tactic| (k_here; refine Stop.intro ?_))
local macro_rules | `(tactic| walk_at "compareOp In") => `(tactic| (k_here; refine Stop.intro ?_))
local macro_rules | `(tactic| walk_at "call builtin:list.append") => `(tactic| (k_here; refine Stop.intro ?_))
local macro_rules | `(tactic| walk_at "call builtin:list.index") => `(tactic| (k_here; refine Stop.intro ?_))
local macro_rules | `(tactic| walk_at "call ref cons") => `(tactic| (k_here; refine Stop.intro ?_))
local macro_rules | `(tactic| walk_at "call ref nil") => `(tactic| (k_here; refine Stop.intro ?_))
local macro_rules | `(tactic| walk_at "call type:list") => `(tactic| (k_here; refine Stop.intro ?_))
local macro_rules | `(tactic| walk_at "execs cons For cons") => `(tactic| (k_here; refine Stop.intro ?_))
theorem fillsZF : True ∧ (PySem.Challenge.rw_aa5017_01, hd.heap_39) = (PySem.Challenge.rw_aa5017_01, hd.heap_39) := ⟨trivial, by k_fill; rfl⟩
local macro_rules | `(tactic| walk_at "pyIter ref") => `(tactic| (k_here; refine Stop.intro ?_))
theorem permS {du eB eA pr bg : Addr × Obj} {fA fB t : Led} : (du :: eB :: eA :: pr :: (fB ++ (fA ++ bg :: t))).Perm (bg :: pr :: du :: eA :: eB :: (fA ++ (fB ++ t))) := by
  have h1 : (fB ++ (fA ++ bg :: t)).Perm (bg :: (fA ++ (fB ++ t))) := by
    refine (List.perm_append_comm_assoc fB fA (bg :: t)).trans ?_
    have := List.perm_middle (l₁ := fA ++ fB) (a := bg) (l₂ := t)
    simpa using this
  have h2 : [du, eB, eA, pr, bg].Perm [bg, pr, du, eA, eB] := (List.reverse_perm [du, eB, eA, pr, bg]).symm.trans (.cons bg (.cons pr (List.perm_append_comm (l₁ := [eA, eB]) (l₂ := [du]))))
  exact (((((h1.cons pr).cons eA).cons eB).cons du)).trans (h2.append_right (fA ++ (fB ++ t)))
set_option maxHeartbeats 40000000 in
theorem law_rest {w : World} {h₀ : Heap} {s : Shared} {L l fa : Addr} {cd : Value} {vs : List Value} {ns : List Int} {mean : ExcName → Option Value} {mg mb : Str → Option Value} {E : Value → Shared → Prop} {Q : Flow → Shared → Prop}
    {name qual : Str} {params : Arguments} {body : List Stmt} {scope : Scope} {dV kV doc pm cdv ct oc : Value} {an odd : Option Addr} {osl : Array (Option Value)}
    {bg : Addr} {bs : List Value} {c : Nat} {ds : List Dt} {tups : Led} {m0 : Str → Option Value}
    (ho : (hd.heap_39 w.params).lookup 98 = some ⟨oc, odd, .func (fnOf name qual params body scope dV kV doc pm an cdv ct), osl⟩)
    (K0 : Below callerA h₀ [] h₀) (X₀ : (hd.heap_39 w.params).In h₀) (T : TP mean mg mb h₀)
    (hL : h₀.IsList l vs.toArray) (hI : IntsAre vs ns) (hlen : ns.length ≤ 63)
    (F : Fr h₀ L s.heap (fun y => if y = Str.ofString "begun" then some (.ref bg) else if y = Str.ofString "script" then some (.ref l) else m0 y))
    (N : News h₀ L s.heap ((bg, W.listOf bs.toArray c) :: tups)) (J : Dj ((bg, W.listOf bs.toArray c) :: tups))
    (hB : Dens w (fun b o => (b, o) ∈ tups) bs ds) (hnd : ds.Nodup) (hsub : ∀ x ∈ ds, x ∈ vals12)
    (hE : PassesOwn (model pg w) (callerA.deeper (envOf qual scope L fa cd)) (envOf qual scope L fa cd) E)
    (ret : ∀ h' tk' m', Fr h₀ L h' m' → Q (.ret (.bool true)) { s with heap := h', toks := tk' }) :
    wpAny (model pg w) (callerA.deeper (envOf qual scope L fa cd)) (execs (body.drop 3) (envOf qual scope L fa cd)) Q E s := by
  have fill : (PySem.Challenge.rw_aa5017_01, hd.heap_39) = (PySem.Challenge.rw_aa5017_01, hd.heap_39) := by k_fill; rfl
  have ho' := ho
  have ho2 := ho.symm.trans (show (hd.heap_39 w.params).lookup 98 = some ⟨_, _, .func (fnOf _ _ _ _ _ _ _ _ _ _ _ _), _⟩ by k_is)
  simp only [Option.some.injEq, Obj.mk.injEq, Data.func.injEq, fnOf] at ho2
  obtain ⟨-, -, hf, -⟩ := ho2
  have hq : qual = _ := congrArg FuncData.qualname hf
  have hb := congrArg FuncData.body hf
  have hs : scope = _ := congrArg FuncData.scope hf
  dsimp only at hq hb hs
  injection hb with hb
  subst hq hs hb
  clear hf ho
  show wpAny _ _ (execs [_, _, _, _, _] _) _ _ _
  have hle := bound12 hnd hsub
  have hPI : PIn (fun b o => (b, o) ∈ tups) h₀ ((bg, W.listOf bs.toArray c) :: tups) := fun b o q _ => .inr (.tail _ q)
  (try k_fold)
  k_steps
  show wpAny _ _ (call (Value.ref 68) []) _ _ _
  refine new0_C (fun b o => (b, o) ∈ tups) K0 F X₀ T rfl rfl (by decide) (by decide) N J fun h1 tk1 aA fA F1 N1 J1 ilA => ?_
  clear N F
  k_steps
  show wpAny _ _ _ _ _ _
  refine new1_L (rest := fA ++ (bg, W.listOf bs.toArray c) :: tups) (List.mem_append_right _ (.head _)) hB hnd hle K0 F1 X₀ T rfl rfl (by decide) (by decide) N1 J1 (fun b o q _ => .inr (List.mem_append_right _ (.tail _ q))) fun h2 tk2 aB fB F2 N2 J2 ilB => ?_
  clear N1 F1
  k_steps
  show wpAny _ _ _ _ _ _
  rename_i pr h3 l3 h4 eA h5 F5 N5 l5
  have J5 : Dj ((eA, W.listOf ([] : List Value).toArray 0) :: (pr, W.listOf [Value.ref aA, Value.ref aB].toArray 0) :: (fB ++ (fA ++ (bg, W.listOf bs.toArray c) :: tups))) := by
    refine Dj.cons (J2.cons fun q hq => (Nat.ne_of_lt (l3 q hq)).symm) fun q hq => ?_
    exact (Nat.ne_of_lt (allLt_mem (d := eA) (l := (pr, W.listOf [Value.ref aA, Value.ref aB].toArray 0) :: (fB ++ (fA ++ (bg, W.listOf bs.toArray c) :: tups))) l5 q hq)).symm
  clear J2 l3 l5
  refine kup_listOf F5 N5 (.tail _ (.tail _ (List.mem_append_right _ (List.mem_append_right _ (.head _))))) (show _ = bs from rfl) (fun eB cB h6 F6 N6 lt6 => ?_) (by rw [sizeLine_eq, hB.length]; omega)
  have J6 := J5.cons (p := (eB, W.listOf bs.toArray cB)) fun q hq => (Nat.ne_of_lt (lt6 q hq)).symm
  clear J5 lt6 N5 F5
  k_steps
  show wpAny _ _ (execs [_, _, _] _) _ _ _
  rename_i du h7 l7 h8 F8 N8
  have J8 : Dj ((du, W.listOf [Value.ref eA, Value.ref eB].toArray 0) :: (eB, W.listOf bs.toArray cB) :: (eA, W.listOf ([] : List Value).toArray 0) :: (pr, W.listOf [Value.ref aA, Value.ref aB].toArray 0) :: (fB ++ (fA ++ (bg, W.listOf bs.toArray c) :: tups))) :=
    J6.cons fun q hq => (Nat.ne_of_lt (allLt_mem (d := du) (l := (eB, W.listOf bs.toArray cB) :: (eA, W.listOf ([] : List Value).toArray 0) :: (pr, W.listOf [Value.ref aA, Value.ref aB].toArray 0) :: (fB ++ (fA ++ (bg, W.listOf bs.toArray c) :: tups))) l7 q hq)).symm
  have N9 : News h₀ L h8 ((pr, W.listOf [Value.ref aA, Value.ref aB].toArray 0) :: (du, W.listOf [Value.ref eA, Value.ref eB].toArray 0) :: (eA, W.listOf ([] : List Value).toArray 0) :: (eB, W.listOf bs.toArray cB) :: (fA ++ (fB ++ tups))) :=
    subN N8 fun q hq => (permS.mem_iff).mpr (.tail _ hq)
  have J9 := (J8.perm permS).tail
  have CA : Cell w (fun b o => (b, o) ∈ tups) aA fA [] [] := ⟨ilA, .nil, fun x hx => absurd hx (by simp)⟩
  have CB : Cell w (fun b o => (b, o) ∈ tups) aB fB bs ds := ⟨ilB, hB, hsub⟩
  clear J8 J6 N8 l7 ilA ilB
  refine execs_then (h₀ := h₀) (L := L) (fun m news => m (Str.ofString "pair") = some (.ref pr) ∧ m (Str.ofString "dues") = some (.ref du) ∧ ∃ fpA fpB tups dvA dvB cA cB dsA dsB,
    news = (pr, W.listOf [Value.ref aA, Value.ref aB].toArray 0) :: (du, W.listOf [Value.ref eA, Value.ref eB].toArray 0) :: (eA, W.listOf (List.toArray dvA) cA) :: (eB, W.listOf (List.toArray dvB) cB) :: (fpA ++ (fpB ++ tups)) ∧
    Dj news ∧ Cell w (fun b o => (b, o) ∈ tups) aA fpA dvA dsA ∧ Cell w (fun b o => (b, o) ∈ tups) aB fpB dvB dsB) ?_ ?_
  · (try k_fold)
    refine For_invVF F8 rfl rfl ?_ (hE := hE)
    k_steps
    show wpAny _ _ _ _ _ _
    rename_i lst us h9 F10 N10 hI10 l10
    have J10 : Dj ((lst, W.listOf us.toArray 0) :: (pr, W.listOf [Value.ref aA, Value.ref aB].toArray 0) :: (du, W.listOf [Value.ref eA, Value.ref eB].toArray 0) :: (eA, W.listOf ([] : List Value).toArray 0) :: (eB, W.listOf bs.toArray cB) :: (fA ++ (fB ++ tups))) :=
      J9.cons fun q hq => (Nat.ne_of_lt (allLt_mem (d := lst) (l := (pr, W.listOf [Value.ref aA, Value.ref aB].toArray 0) :: (du, W.listOf [Value.ref eA, Value.ref eB].toArray 0) :: (eA, W.listOf ([] : List Value).toArray 0) :: (eB, W.listOf bs.toArray cB) :: (fA ++ (fB ++ tups))) l10.2.2 q hq)).symm
    have N11 : News h₀ L h9 ([(lst, W.listOf us.toArray 0)] ++ ((pr, W.listOf [Value.ref aA, Value.ref aB].toArray 0) :: (du, W.listOf [Value.ref eA, Value.ref eB].toArray 0) :: (eA, W.listOf ([] : List Value).toArray 0) :: (eB, W.listOf bs.toArray cB) :: (fA ++ (fB ++ tups)))) :=
      subN N10 fun q hq => (List.mem_cons.mp hq).elim (fun e => e ▸ .head _) fun hq => .tail _ (.tail _ (.tail _ hq))
    clear N10 l10
    refine loopSeq (lp := [(lst, W.listOf us.toArray 0)]) (fun _ m news => m (Str.ofString "pair") = some (.ref pr) ∧ m (Str.ofString "dues") = some (.ref du) ∧ ∃ fpA fpB tups dvA dvB cA cB dsA dsB,
      news = (pr, W.listOf [Value.ref aA, Value.ref aB].toArray 0) :: (du, W.listOf [Value.ref eA, Value.ref eB].toArray 0) :: (eA, W.listOf (List.toArray dvA) cA) :: (eB, W.listOf (List.toArray dvB) cB) :: (fpA ++ (fpB ++ tups)) ∧
      Dj ((lst, W.listOf us.toArray 0) :: news) ∧ Cell w (fun b o => (b, o) ∈ tups) aA fpA dvA dsA ∧ Cell w (fun b o => (b, o) ∈ tups) aB fpB dvB dsB) rfl
      (fun Q' hQ => wpAny_pyIter_list ⟨_, (N11 (lst, _) (.head _)).1, rfl, 0, rfl⟩ hQ) (.inl rfl) rfl F10 N11 ⟨rfl, rfl, fA, fB, tups, [], bs, 0, cB, [], ds, rfl, J10, CA, CB⟩ ?_ ?_
    · rintro i v m₁ news₁ h tk oI hv ⟨hm1, hm2, fpA, fpB, tups1, dvA, dvB, cA, cB1, dsA, dsB, rfl, J1, C1, C2⟩ F₁ N₁ hne hnl
      obtain ⟨nb, tb, rfl, -⟩ := hI10.at i v hv
      rw [loc2 hm1 hm2] at F₁
      exact law_turn ho' rfl K0 X₀ T C1 C2 F₁ N₁ (J1.cons fun q hq => (List.mem_cons.mp hq).elim (fun e => e ▸ (hnl _ (.head _)).symm) fun hq => (hne q hq).symm) rfl
        fun m' fpA' fpB' tups' dvA' dvB' cA' cB' dsA' dsB' e1 e2 J' CA' CB' => ⟨e1, e2, fpA', fpB', tups', dvA', dvB', cA', cB', dsA', dsB', rfl, J'.tail, CA', CB'⟩
    · rintro h' tk m' news' F' N' ⟨hm1, hm2, fpA, fpB, tups1, dvA, dvB, cA, cB1, dsA, dsB, rfl, J1, C1, C2⟩ _
      exact Then.intro F' (subN N' fun q hq => .tail _ hq) ⟨hm1, hm2, fpA, fpB, tups1, dvA, dvB, cA, cB1, dsA, dsB, rfl, J1.tail, C1, C2⟩
  clear F8 N9 J9 CA CB
  rintro h12 tk12 m12 news12 F12 N12 ⟨hm1, hm2, fpA, fpB, tups1, dvA, dvB, cA, cB1, dsA, dsB, rfl, J12, CA, CB⟩
  obtain ⟨m9, rfl⟩ : ∃ m9, m12 = (fun y => if y = Str.ofString "pair" then some (.ref pr) else if y = Str.ofString "dues" then some (.ref du) else m9 y) := ⟨m12, loc2 hm1 hm2⟩
  clear hm1 hm2
  dsimp only
  refine execs_then (h₀ := h₀) (L := L) (fun _ _ => True) (law_zip ho' rfl K0 X₀ T CA CB F12 N12 J12 hE) ?_
  clear F12 N12 J12 CA CB
  rintro h13 tk13 m13 news13 F13 - -
  dsimp only
  k_steps
  exact ret _ _ _ F13
end Mine

-- part ZC
namespace Mine
-- the walker keeps the rules that it found as long as their number stays: a step under no local rule makes it look anew
theorem anewZC {w : PySem.World} {A : PySem.Around} {E : PySem.Value → PySem.Shared → Prop} {Q : PySem.Flow → PySem.Shared → Prop} {s : PySem.Shared} {env : PySem.Env} (h : PySem.wpAny (PySem.model PySem.Challenge.rw_aa5017_01.row.prog w) A (PySem.execs [] env) Q E s) :
    PySem.wpAny (PySem.model PySem.Challenge.rw_aa5017_01.row.prog w) A (PySem.execs [] env) Q E s := by
  first | (walk1; fail) | exact h
end Mine
open PySem PySem.W PyProof.Rows PySem.Calls PySem.Builtin PySem.Builtin.ObjectAttr
set_option Elab.async false
set_option maxRecDepth 100000
namespace Mine
local macro_rules | `(tactic| walk_at "getMethod type:list") => `(tactic| (k_here; refine' method_type ?F ?X ?m (by decide +kernel) ?e ?h ?_; (case F => k_asm); (case X => k_asm); (case m => exact meta_list); (case e => k_dflt k_is); (case h => k_handed)))
local macro_rules | `(tactic| k_inst) => `(tactic| (refine' inst_il ?N ?h1 ?h2; (case N => k_asm); (case h1 => k_mem); (case h2 => k_mem)))
local macro_rules | `(tactic| walk_at "getAttr ref") => `(tactic| (k_here; k_dflt (refine' getOwn_il ?k1 ?k2 ?k3 ?k4 ?k5 ?k6 ?k7 ?_; (case k1 => k_asm); (case k2 => k_asm); (case k3 => k_inst); (case k4 => k_is); (case k5 => k_is); (case k6 => k_get); (case k7 => k_handed); k_whole)))
local macro_rules | `(tactic| walk_at "getMethod ref") => `(tactic| (k_here; k_dflt (refine' method_il ?k1 ?k2 ?k3 ?k4 ?k5 ?k6 ?_; (case k1 => k_asm); (case k2 => k_asm); (case k3 => k_inst); (case k4 => k_is); (case k5 => k_is); (case k6 => k_get); k_whole)))
local macro_rules | `(tactic| walk_at "call builtin:len") => `(tactic| (k_here; (with_reducible show wpAny _ _ (call (Value.builtin "len") [Value.ref _]) _ _ _); k_dflt (refine' lenK_il ?k1 ?k2 ?k3 ?k4 ?_; (case k1 => k_asm); (case k2 => k_asm); (case k3 => k_inst); (case k4 => omega); k_whole)))
local macro_rules | `(tactic| walk_at "call builtin:list.append") => `(tactic| (k_here; k_dflt (refine' append_il ?k1 ?k2 ?k3 ?k4 ?k5 ?k6 ?_; (case k1 => k_asm); (case k2 => k_asm); (case k3 => k_asm); (case k4 => k_inst); (case k5 => k_upd); (case k6 => omega); k_whole; intro h' F' N'; k_sweep)))
local macro_rules | `(tactic| walk_at "compareOp NotIn") => `(tactic| (k_here; k_dflt (refine' notIn_K ?k1 ?k2 ?k3 ?k4 ?k5 ?k6 ?k7 ?k8 ?_; (case k1 => k_asm); (case k2 => k_asm); (case k3 => k_asm); (case k4 => k_mem); (case k5 => assumption); (case k6 => assumption); (case k7 => assumption); (case k8 => ((try simp only [units_in1, units_deeper]); (try dsimp only); omega)); k_whole; intro tk')))
local macro_rules | `(tactic| walk_at "setItem ref int") => `(tactic| (k_here; k_dflt (refine' setItem_K ?k1 ?k2 ?k3 ?k4 ?k5 ?k6 ?k7 ?k8 ?k9 ?k10 ?_; (case k1 => k_asm); (case k2 => k_asm); (case k3 => k_updF); (case k4 => k_asm); (case k5 => assumption); (case k6 => assumption); (case k7 => ((try simp only [units_in1, units_deeper]); (try dsimp only); omega)); (case k8 => omega); (case k9 => first | assumption | exact notMem_of (by assumption)); (case k10 => omega); k_whole; intro h' od' tk' D' F' N'; k_sweep)))

local macro_rules | `(tactic| walk_at "setAttr ref ref") => `(tactic| (k_here; k_dflt (refine' set_il ?k1 ?k2 ?k3 ?k4 ?k5 ?k6 ?k7 ?k8 ?k9 ?_; (case k1 => k_asm); (case k2 => k_asm); (case k3 => k_asm); (case k4 => k_inst); (case k5 => k_is); (case k6 => k_get); (case k7 => k_put); (case k8 => k_upd); (case k9 => exact Nat.le_of_ble_eq_true rfl); k_whole; intro h' F' N'; k_sweep)))
local macro_rules | `(tactic| walk_at "setAttr ref bool") => `(tactic| (k_here; k_dflt (refine' set_il ?k1 ?k2 ?k3 ?k4 ?k5 ?k6 ?k7 ?k8 ?k9 ?_; (case k1 => k_asm); (case k2 => k_asm); (case k3 => k_asm); (case k4 => k_inst); (case k5 => k_is); (case k6 => k_get); (case k7 => k_put); (case k8 => k_upd); (case k9 => exact Nat.le_of_ble_eq_true rfl); k_whole; intro h' F' N'; k_sweep)))
local macro_rules | `(tactic| walk_at "eval Dict nil nil") => `(tactic| (k_here; k_dflt (refine' dict_nil ?k1 ?k2 ?k3 ?_; (case k1 => k_asm); (case k2 => k_asm); (case k3 => k_asm); k_whole; intro d' h' F' N' l1 lo' lb'; (try k_lt l1); k_sweep)))
theorem map_pair' {m : Str → Option Value} {x z : Str} {v u va ua : Option Value} :
    (fun y => if y = x then v else if y = z then va else if y = x then u else if y = z then ua else m y) = fun y => if y = x then v else if y = z then va else m y := map_pair
theorem fillsZ : True ∧ (PySem.Challenge.rw_aa5017_01, hd.heap_39) = (PySem.Challenge.rw_aa5017_01, hd.heap_39) := ⟨trivial, by k_fill; rfl⟩
local macro_rules | `(tactic| walk_at "call ref nil") => `(tactic| (k_here; (try dsimp only); (with_reducible show wpAny _ _ (call (Value.ref 79) _) _ _ _); k_dflt (refine' values_K ?kB ?kF ?kX ?kT ?khf ?khk ?kr ?ku ?kN ?_; (case kB => k_asm); (case kF => k_asm); (case kX => k_asm); (case kT => k_asm); (case khf => exact rfl); (case khk => exact rfl); (case kr => decide); (case ku => decide); (case kN => k_asm); k_whole; intro h' tk' l n vs tups F' N' df dl ct V'; (have hv12 : vs.length = 12 := V'.length); (simp only [List.cons_append, List.nil_append] at N'); k_sweep)))
local macro_rules | `(tactic| walk_at "subscriptTail Call Name nil nil BinOp ref int") => `(tactic| (k_here; k_dflt (refine' item_V (ds := vals12) ?k1 ?kV ?k2 ?k3 ?k4 ?_ ?k6; (case k1 => exact (News.get (by k_asm) (by k_mem))); (case kV => assumption); (case k2 => (rw [Int.fmod_eq_emod_of_nonneg _ (show (0 : Int) ≤ 12 by decide)]; omega)); (case k3 => (rw [Int.fmod_eq_emod_of_nonneg _ (show (0 : Int) ≤ 12 by decide)]; show _ < (12 : Int); omega)); (case k4 => decide); (case k6 => rfl); k_whole; intro j v x hj hx hxd)))
local macro_rules | `(tactic| walk_at "subscriptTail Name Name ref int") => `(tactic| (k_here; k_dflt (refine' item_L ?k1 ?k2 ?k3 ?k4 ?_ ?k6; (case k1 => exact (News.get (by k_asm) (by k_mem))); (case k2 => first | omega | (rw [Int.fmod_eq_emod_of_nonneg _ (show (0 : Int) ≤ 12 by decide)]; omega)); (case k3 => first | omega | (rw [Int.fmod_eq_emod_of_nonneg _ (show (0 : Int) ≤ 12 by decide)]; omega)); (case k4 => omega); (case k6 => rfl); k_whole; intro j v hj hv)))
local macro_rules | `(tactic| walk_at "exec For Name Call cons nil") => `(tactic| (k_here; (rename Fr _ _ _ _ => lF'); (with_unfolding_all refine' For_invVF lF' ?k1 ?k2 ?_; (case k1 => exact rfl); (case k2 => exact rfl); k_whole)))
local macro_rules | `(tactic| walk_at "execs cons If nil") => `(tactic| (k_here; refine wpAny_execs_cons ?_))
local macro_rules | `(tactic| walk_at "exec If") => `(tactic| (k_here; refine wpAny_If ?_))
local macro_rules | `(tactic| walk_at "compareOp NotIn ref") => `(tactic| (k_here; refine Stop.intro ?_))
local macro_rules | `(tactic| walk_at "compareOp NotIn") => `(tactic| (k_here; refine Stop.intro ?_))
local macro_rules | `(tactic| walk_at "call builtin:list.append") => `(tactic| (k_here; refine Stop.intro ?_))
local macro_rules | `(tactic| walk_at "execs cons Expr nil") => `(tactic| (k_here; refine wpAny_execs_cons ?_))
local macro_rules | `(tactic| walk_at "execs nil") => `(tactic| (refine wpAny_execs_nil ?_; (try dsimp only)))
local macro_rules | `(tactic| walk_at "call type:range") => `(tactic| (k_here; k_dflt (refine' range_K ?k1 ?k2 ?_; (case k1 => k_asm); (case k2 => k_asm); k_whole; intro r h' tk t u v F' N' hr; k_sweep)))
set_option maxHeartbeats 40000000 in
theorem law_core {w : World} {h₀ : Heap} {s : Shared} {L l fa : Addr} {cd : Value} {vs : List Value} {ns : List Int} {mean : ExcName → Option Value} {mg mb : Str → Option Value} {E : Value → Shared → Prop} {Q : Flow → Shared → Prop}
    {name qual : Str} {params : Arguments} {body : List Stmt} {scope : Scope} {dV kV doc pm cdv ct oc : Value} {an odd : Option Addr} {osl : Array (Option Value)}
    (K0 : Below callerA h₀ [] h₀) (F : Fr h₀ L s.heap (fun y => List.lookup y [(Str.ofString "script", Value.ref l)].reverse)) (N : News h₀ L s.heap []) (X₀ : (hd.heap_39 w.params).In h₀) (T : TP mean mg mb h₀)
    (hL : h₀.IsList l vs.toArray) (hI : IntsAre vs ns) (hlen : ns.length ≤ 63)
    (ho : (hd.heap_39 w.params).lookup 98 = some ⟨oc, odd, .func (fnOf name qual params body scope dV kV doc pm an cdv ct), osl⟩)
    (hE : PassesOwn (model pg w) (callerA.deeper (envOf qual scope L fa cd)) (envOf qual scope L fa cd) E)
    (ret : ∀ h' tk' m', Fr h₀ L h' m' → Q (.ret (.bool true)) { s with heap := h', toks := tk' }) :
    wpAny (model pg w) (callerA.deeper (envOf qual scope L fa cd)) (execs body (envOf qual scope L fa cd)) Q E s := by
  have fill : (PySem.Challenge.rw_aa5017_01, hd.heap_39) = (PySem.Challenge.rw_aa5017_01, hd.heap_39) := by k_fill; rfl
  have ho' := ho
  have ho2 := ho.symm.trans (show (hd.heap_39 w.params).lookup 98 = some ⟨_, _, .func (fnOf _ _ _ _ _ _ _ _ _ _ _ _), _⟩ by k_is)
  simp only [Option.some.injEq, Obj.mk.injEq, Data.func.injEq, fnOf] at ho2
  obtain ⟨-, -, hf, -⟩ := ho2
  have hq : qual = _ := congrArg FuncData.qualname hf
  have hb := congrArg FuncData.body hf
  have hs : scope = _ := congrArg FuncData.scope hf
  dsimp only at hq hb hs
  injection hb with hb
  subst hq hs hb
  clear hf
  refine execs_then (h₀ := h₀) (L := L) (fun m news => ∃ n : Int, ∃ t, m = (fun y => if y = Str.ofString "first" then some (.int n t) else List.lookup y [(Str.ofString "script", Value.ref l)].reverse) ∧ news = []) ?_ ?_
  · (try k_fold)
    k_steps
    · exact Then.intro (by assumption) (by assumption) ⟨_, _, rfl, rfl⟩
    · exact Then.intro (by assumption) (by assumption) ⟨_, _, rfl, rfl⟩
  rintro h1 tk1 m1 news1 F1 N1 ⟨nf, tf, rfl, rfl⟩
  clear F N
  refine execs_then (h₀ := h₀) (L := L) (fun m news => ∃ bg c, m = (fun y => if y = Str.ofString "begun" then some (.ref bg) else if y = Str.ofString "first" then some (.int nf tf) else List.lookup y [(Str.ofString "script", Value.ref l)].reverse) ∧ news = [(bg, W.listOf ([] : List Value).toArray c)]) ?_ ?_
  · (try k_fold)
    k_steps
    · exact Then.intro (by assumption) (by assumption) ⟨_, _, rfl, rfl⟩
  rintro h2 tk2 m2 news2 F2 N2 ⟨bg, cb, rfl, rfl⟩
  clear F1 N1
  refine execs_then (h₀ := h₀) (L := L) (fun m news => ∃ bs c ds tups, m (Str.ofString "begun") = some (.ref bg) ∧ m (Str.ofString "script") = some (.ref l) ∧
      news = (bg, W.listOf (List.toArray bs) c) :: tups ∧ Dj news ∧ Dens w (fun b o => (b, o) ∈ tups) bs ds ∧ ds.Nodup ∧ (∀ x ∈ ds, x ∈ vals12)) ?_ ?_
  · (try k_fold)
    refine For_invVF F2 rfl rfl ?_ (hE := hE)
    iterate 9 (first | (k_unfold; (try dsimp only)) | walk1 | (dsimp only; walk1))
    refine' range_K ?k1 ?k2 ?_
    case k1 => exact F2
    case k2 => exact N2
    intro r h3 tk3 tr ur vr F3 N3 hr
    have e5 : nf.fmod 5 = nf % 5 := Int.fmod_eq_emod_of_nonneg _ (by decide)
    obtain ⟨nn, hnn, hn4⟩ : ∃ nn : Nat, nf.fmod 5 = (nn : Int) ∧ nn ≤ 4 := ⟨(nf % 5).toNat, by omega, by omega⟩
    refine loopRange (fun i m news => ∃ u1 u2 bs c ds tups, m = (fun y => if y = Str.ofString "value" then u1 else if y = Str.ofString "k" then u2 else if y = Str.ofString "begun" then some (.ref bg) else if y = Str.ofString "first" then some (.int nf tf) else List.lookup y [(Str.ofString "script", Value.ref l)].reverse) ∧
      news = (bg, W.listOf (List.toArray bs) c) :: tups ∧ Dens w (fun b o => (b, o) ∈ tups) bs ds ∧ ds.Nodup ∧ (∀ x ∈ ds, x ∈ vals12) ∧ ds.length ≤ i ∧ (∀ p ∈ tups, @Ne Nat p.1 bg)) rfl nn hr (by rw [hnn]; exact small_one (by decide) (by decide) (by omega) (by omega)) (by rw [hnn, rangeSize_one]; split <;> omega) F3 N3
      ⟨_, _, [], cb, [], [], (map_start _ _).trans (congrArg (fun f => fun y => if y = Str.ofString "value" then _ else f y) (map_start _ _)), rfl, .nil, List.nodup_nil, (fun x hx => absurd hx (by simp)), Nat.zero_le _, (fun p hp => absurd hp (by simp))⟩ ?_ ?_
    · rintro i t m₁ news₁ h tk oI hlt ⟨u1, u2, bs, c, ds, tups, rfl, rfl, hB, hnd, hsub, hlen', hbt⟩ F₁ N₁ hne
      have hbz := hB.length
      have hneb := hne _ (.head _)
      clear F2 N2 F3 N3
      dsimp only at N₁ hneb F₁
      show wpAny _ _ _ _ _ _
      k_fold
      k_steps
      rename_i h5 tk5 l5 n5 vs5 tups5 F5 N5 df5 dl5 ct5 V5 hv12 j5 v5 x hj5 hxv hxd h6 F6 N6
      clear hj5 F5 N5
      have hb5 : ∀ p ∈ tups5 ++ tups, @Ne Nat p.1 bg := fun p hp => (List.mem_append.mp hp).elim (fun hp => df5 p (.tail _ hp) _ (.tail _ (.head _))) (hbt p)
      have hI5 : ∀ p ∈ tups5 ++ tups, @Ne Nat p.1 h3.objs.size := fun p hp => (List.mem_append.mp hp).elim (fun hp => df5 p (.tail _ hp) _ (.head _)) (fun hp => hne p (.tail _ hp))
      have N7 : News h₀ L h6 ((h3.objs.size, oI) :: (bg, W.listOf bs.toArray c) :: (tups5 ++ tups)) := fun p hp => N6 p (by simp only [List.mem_cons, List.mem_append] at hp ⊢; rcases hp with hp | hp | hp | hp <;> simp [hp])
      have hBs : Dens w (fun b o => (b, o) ∈ tups5 ++ tups) bs ds := hB.mono fun _ _ h _ => List.mem_append_right _ h
      have hxd' : DenP pg w (fun b o => (b, o) ∈ tups5 ++ tups) v5 x := hxd.mono fun _ _ h _ => List.mem_append_left _ h
      have kP : TupsIn (fun b o => (b, o) ∈ tups5 ++ tups) h6 := fun b o q _ => (N7 _ (.tail _ (.tail _ q))).1
      clear N6 df5 dl5 ct5 V5 hxd
      show wpAny _ _ _ _ _ _
      refine notIn_L kP (N7 _ (.tail _ (.head _))).1 hBs hxd' (fun y hy => ok12 y (hsub y hy)) (ok12 x hxv) (Nat.le_of_ble_eq_true rfl) ?_
      k_steps
      · refine TurnEnd.intro (fix := [(h3.objs.size, oI)]) (news₂ := (bg, W.listOf (List.toArray bs) c) :: (tups5 ++ tups)) F6 N7 (fun p hp => ?_) ⟨_, _, bs, _, ds, _, map_pair', rfl, hBs, hnd, hsub, by omega, hb5⟩
        rcases List.mem_cons.mp hp with e | hp
        · rw [e]; exact hneb
        · exact hI5 p hp
      · rename_i hin
        show wpAny _ _ _ _ _ _
        refine PySem.W.append_K F6 N7 (.tail hneb.symm (.head hb5)) (fun h7 F7 N8 => ?_) (by rw [List.size_toArray, sizeLine_eq]; omega)
        k_steps
        have hnot : x ∉ ds := notMem_of hin
        have N9 : News h₀ L h7 ((h3.objs.size, oI) :: (bg, W.listOf (List.toArray (bs ++ [v5])) (c + 1)) :: (tups5 ++ tups)) := by simpa using N8
        refine TurnEnd.intro (fix := [(h3.objs.size, oI)]) (news₂ := (bg, W.listOf (List.toArray (bs ++ [v5])) (c + 1)) :: (tups5 ++ tups)) F7 N9 (fun p hp => ?_) ⟨_, _, bs ++ [v5], _, ds ++ [x], _, map_pair', rfl, hBs.snoc hxd', ?_, ?_, by simp; omega, hb5⟩
        · rcases List.mem_cons.mp hp with e | hp
          · rw [e]; exact hneb
          · exact hI5 p hp
        · exact List.nodup_append.mpr ⟨hnd, by simp, fun y hy z hz e => hnot (by rw [List.mem_singleton.mp hz] at e; exact e ▸ hy)⟩
        · intro y hy
          rcases List.mem_append.mp hy with hy | hy
          · exact hsub y hy
          · rw [List.mem_singleton.mp hy]; exact hxv
    · rintro h' tk m' news' F' N' ⟨u1, u2, bs, c, ds, tups, rfl, rfl, hB, hnd, hsub, -, hbt⟩ _
      obtain ⟨t', hj, hm⟩ := dedup tups fun p hp q hq e => by
        have a := (N' p (.tail _ hp)).1
        have b := (N' q (.tail _ hq)).1
        rw [show p.1 = q.1 from e, b] at a
        exact Prod.ext e (Option.some.inj a).symm
      exact Then.intro F' (subN N' fun q hq => (List.mem_cons.mp hq).elim (fun e => e ▸ .head _) fun hq => .tail _ ((hm q).mp hq)) ⟨bs, c, ds, t', rfl, rfl, rfl, hj.cons fun q hq => (hbt q ((hm q).mp hq)).symm, hB.mono fun b o k _ => (hm _).mpr k, hnd, hsub⟩
  clear F2 N2
  rintro h4 tk4 m4 news4 F4 N4 ⟨bs, c, ds, tups, hm1, hm2, rfl, J4, hB, hnd, hsub⟩
  rw [loc2 hm1 hm2] at F4
  exact law_rest ho' K0 X₀ T hL hI hlen F4 N4 J4 hB hnd hsub hE ret
set_option maxHeartbeats 4000000 in
theorem law_holds : PySem.Challenge.rw_aa5017_01.Holds := hd (by
  k_go0
  rename (hd.heap_39 _).In _ => KX
  rename Top _ _ _ _ _ _ => TT
  rename Below _ _ _ _ => K0
  rename Fr _ _ _ _ => F0
  rename News _ _ _ _ => N0
  rename Heap.IsList _ _ _ => hL
  rename IntsAre _ _ => hI
  rename ¬ _ < _ => hlen
  refine law_core (s := _) K0 F0 N0 KX TT hL hI (by omega) (by k_is) (by passes_own) fun h' tk' m' F' => ?_
  k_steps)
end Mine
theorem PySem.Challenge.cw_aa5017_01_holds : PySem.Challenge.rw_aa5017_01.Holds :=
  Mine.law_holds
