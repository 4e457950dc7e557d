import PyProof.Rows.All
import Wide.All
import OpenK.AllK
import Wide.FinOn
import Lean
import PySem.Challenge.RW_km0026_02
open PySem PySem.W PyProof.Rows
set_option Elab.async false
/-!
The law of CookiePolicy.set_ok (km0026-02). The proof's make:
1. `ThingMade`: a contract of `_law_thing(kind, total)`, walked once; what it makes is a `Thing`: plain data (`dataOf`), or the dict with a dict within.
2. `thing_ne`: a thing and the same thing made anew: `!=` says False (plain data by the library; the dict by `dict_same`, in this very world: a nested dict keyed by texts hangs on the world's hashes).
3. The digits: k_state and k_while; the two ways of «if digits == []» joined (`Joined`).
4. A turn of the main loop: the deed split in four (`deed4`); `error.args == ()` by `tup0_eq`; the word: told and due are the same texts; the end by `strs_eq`.
-/
namespace Mine
open PySem.Calls PyProof.V PySem.Spec

/-- here, in this program and this world, eqBool says True -/
def EqHere (prog : Program) (w : World) (A : Around) (s : Shared) (y x : Value) : Prop :=
  ∀ (E : Value → Shared → Prop) (Q : Bool → Shared → Prop), Q true s → wpAny (model prog w) A (eqBool y x) Q E s

section
variable {prog : Program} {w : World} {K : Type} [DecidableEq K] {knd : KeyKind prog w K} {A : Around} {E : Value → Shared → Prop} {s : Shared}

theorem eqHere_of {v y : Value} (h : SeqAt.EqAt A s v y true) : EqHere prog w A s v y := fun E Q hq => h prog w E Q hq

theorem dict_same {nm : String} {a b : Addr} {ka kb : List (K × Value)} {Q : Bool → Shared → Prop} (na : (a == sysModules) = false) (nb : (b == sysModules) = false)
    (da : s.heap.DictOf knd a ka) (db : s.heap.DictOf knd b kb) (hl : ka.length = kb.length)
    (hv : ∀ p ∈ ka, ∃ y, valueAt kb p.1 = some y ∧ EqHere prog w A s p.2 y) (h : Q true s) :
    wpAny (model prog w) A (Builtin.Dict.samePairs nm a b) Q E s := by
  obtain ⟨oa, es, _, goa, _, dta, keys, prs, _⟩ := da
  obtain ⟨ob, fs, _, gob, _, dtb, keys', prs', _⟩ := db
  have la : ka.length = es.size := by rw [← prs.length, Array.length_toList]
  have lb : kb.length = fs.size := by rw [← prs'.length, Array.length_toList]
  have size : es.size = fs.size := by omega
  have look : ∀ k, findBy knd.is fs k = valueAt kb k := by
    intro k
    have := prs'.find k
    rw [← this]
    show (fs.find? _).map _ = _
    rw [← Array.find?_toList]
  unfold Builtin.Dict.samePairs Builtin.Dict.showsAll
  simp only [na, nb, Bool.false_eq_true, if_false]
  refine wpAny_bind (wpAny_pure (wpAny_bind (wpAny_pure (wpAny_bind (wpAny_dictEntries goa dta ?_)))))
  refine wpAny_bind (wpAny_dictEntries gob dtb ?_)
  have ne : (es.size != fs.size) = false := by simp [size]
  simp only [ne, Bool.false_eq_true, if_false]
  refine wpAny_bind (wpAny_dictEpoch goa dta (wpAny_bind ?_))
  rw [Std.Legacy.Range.forIn_eq_forIn_range']
  simp only [Std.Legacy.Range.size, Nat.sub_zero, Nat.add_sub_cancel, Nat.div_one]
  refine wpAny_forIn_list _ (fun rest q t => t = s ∧ q = (none, ()) ∧ ∃ i, i ≤ es.size ∧ rest = List.range' i (es.size - i)) _ ?_ ?_ _ _ ⟨rfl, rfl, 0, Nat.zero_le _, by simp⟩
  · rintro x rest q t ⟨rfl, rfl, i, hi, hr⟩
    have lt : i < es.size := by
      rcases Nat.lt_or_ge i es.size with h | h
      · exact h
      · rw [Nat.sub_eq_zero_of_le h] at hr
        exact nomatch hr
    rw [show es.size - i = (es.size - (i + 1)) + 1 by omega, List.range'_succ] at hr
    injection hr with hx hrest
    subst hx
    have lt' : x < ka.length := by omega
    obtain ⟨hkey, hval⟩ := prs.get? (i := x) (e := es[x]) (k := ka[x].1) (v := ka[x].2) (by rw [Array.getElem?_toList]; exact Array.getElem?_eq_getElem lt) (List.getElem?_eq_getElem lt')
    obtain ⟨k', isk', hash'⟩ := keys es[x] (Array.getElem_mem lt)
    have kk : k' = ka[x].1 := knd.inj _ _ _ isk' hkey
    subst kk
    obtain ⟨y, hy, eqv⟩ := hv ka[x] (List.getElem_mem lt')
    refine wpAny_bind (wpAny_dictEntries goa dta ?_)
    rw [Array.getElem?_eq_getElem lt]
    show wpAny _ _ (holding [es[x].key, es[x].val] _ >>= _) _ _ _
    rw [hash']
    refine wpAny_bind (wpAny_holding (wpAny_bind (wpAny_dictFind_of hkey gob dtb keys' ?_)))
    rw [← look, findBy_of_findIdx?] at hy
    cases hj : fs.findIdx? fun e => knd.is ka[x].1 e.key with
    | none => rw [hj] at hy; exact nomatch hy
    | some j =>
      rw [hj] at hy
      obtain ⟨jlt, _, _⟩ := Array.findIdx?_eq_some_iff_getElem.mp hj
      have yj : fs[j].val = y := by simpa [Array.getElem?_eq_getElem jlt] using hy
      refine wpAny_bind (wpAny_dictEntries gob dtb ?_)
      rw [Array.getElem?_eq_getElem jlt]
      rw [← yj, ← hval] at eqv
      refine wpAny_holding (eqv _ _ ?_)
      show wpAny _ _ (if (!true) = true then _ else _) _ _ _
      rw [if_neg (by decide)]
      refine wpAny_bind (wpAny_dictEpoch goa dta ?_)
      rw [if_neg (by simp)]
      exact wpAny_pure ⟨rfl, rfl, x + 1, lt, hrest⟩
  · rintro q t ⟨rfl, rfl, _⟩
    exact wpAny_pure h

theorem dict_ne {a b : Addr} {ka kb : List (K × Value)} {Q : Value → Shared → Prop} (na : (a == sysModules) = false) (nb : (b == sysModules) = false)
    (da : s.heap.DictOf knd a ka) (db : s.heap.DictOf knd b kb) (hl : ka.length = kb.length) (hu : A.units < cLine)
    (hv : ∀ p ∈ ka, ∃ y, valueAt kb p.1 = some y ∧ EqHere prog w A.in1 s p.2 y) (h : Q (.bool false) s) :
    wpAny (model prog w) A (compareOp .NotEq (.ref a) (.ref b)) Q E s := by
  refine wpAny_richCompare_same_room (op := .NotEq) da.typeIs db.typeIs PySem.F.slot_dict_ne (wpAny_call_entry PySem.F.slot_dict_ne da.typeIs PySem.F.entry_dict_ne ?_ (PySem.F.args_dict_ne_2 _ _)) hu
  show wpAny _ _ (Builtin.Dict.dictSlotArgs "__ne__" ⟨[.ref a, .ref b], []⟩ >>= _) _ _ s
  refine wpAny_bind ?_
  unfold Builtin.Dict.dictSlotArgs
  refine wpAny_bind (wpAny_notOrdered_dict da.typeIs ?_)
  show wpAny _ _ (pure (Value.ref a, Value.ref b)) _ _ s
  refine wpAny_pure (wpAny_bind (wpAny_isInstance (T := "dict") db.typeIs PySem.F.sub_dict_dict ?_))
  simp only [Bool.not_true, Bool.false_eq_true, if_false]
  refine wpAny_bind (wpAny_pure (wpAny_bind (wpAny_pure (wpAny_bind (dict_same na nb da db hl hv ?_)))))
  exact wpAny_pure ⟨_, rfl, (fun x => nomatch x), h⟩

/-- two dicts with the same rows: eqBool says True, be they one object or two -/
theorem eqHere_dicts {a b : Addr} {ka kb : List (K × Value)} (na : (a == sysModules) = false) (nb : (b == sysModules) = false)
    (da : s.heap.DictOf knd a ka) (db : s.heap.DictOf knd b kb) (hl : ka.length = kb.length) (hu : A.units < cLine)
    (hits : KeqHits A.in1 s kb ka true) : EqHere prog w A s (.ref a) (.ref b) := by
  intro E Q hq
  by_cases e : a = b
  · subst e
    exact SeqAt.EqAt.same _ prog w E Q hq
  · unfold eqBool
    refine wpAny_holding (wpAny_ite_split (fun hab => absurd (by have := eq_of_beq hab; injection this) e) (fun _ => ?_))
    refine wpAny_bind (keq_eq na nb da db hu (fun _ => hits) ?_)
    rw [hl, beq_self_eq_true, Bool.true_and]
    exact wpAny_truthy_bool hq
end

/-- what _law_thing(kind, total) is, but for the dict -/
def dataOf (k n : Int) : PyData :=
  if k = 0 then .none
  else if k = 1 then .int n
  else if k = 2 then .str (if 0 < n then Str.ofString ".a.com" else Str.ofString "/a")
  else if k = 3 then .list [.int n, .list [.str (Str.ofString "a"), .list [.int n]]]
  else if k = 5 then .tuple [.int n, .str (Str.ofString "b"), .list [.none]]
  else if k = 6 then .str (Str.ofString "")
  else .bool (decide (n.fmod 2 = 1))

theorem ok_a : PyData.strOk (Str.ofString "a") = true := by decide +kernel
theorem ok_b : PyData.strOk (Str.ofString "b") = true := by decide +kernel
theorem dataOf_shaped (k n : Int) : SeqAt.shaped (dataOf k n) = true := by
  unfold dataOf
  split
  · rfl
  split
  · rfl
  split
  · split <;> decide +kernel
  split
  · simp only [SeqAt.shaped, PyData.canLay0, PyData.canLayAll0, PyData.depth, PyData.depthAll, ok_a]; rfl
  split
  · simp only [SeqAt.shaped, PyData.canLay0, PyData.canLayAll0, PyData.depth, PyData.depthAll, ok_b]; rfl
  split
  · decide +kernel
  · rfl
theorem dataOf_eqv (k n : Int) : PyData.eqv (dataOf k n) (dataOf k n) = true := by
  unfold dataOf
  repeat' (split; · simp [PyData.eqv, PyData.eqvAll])
  simp [PyData.eqv]

def ReadsIn (news : List (Addr × Obj)) (v : Value) (d : PyData) : Prop := ∀ h₀ L h, News h₀ L h news → ∃ as, Reads h v d as

inductive Thing (prog : Program) (w : World) (news : List (Addr × Obj)) : Value → Int × Int → Prop where
  | non {k n : Int} (hk : k = 0) : Thing prog w news .none (k, n)
  | int {k n : Int} {t : Tok} (hk : k = 1) : Thing prog w news (.int n t) (k, n)
  | str {k n : Int} {x : Str} {t : Tok} (hk : k ≠ 4) (h : dataOf k n = .str x) : Thing prog w news (.str x t) (k, n)
  | boo {k n : Int} {b : Bool} (hk : k ≠ 4) (h : dataOf k n = .bool b) : Thing prog w news (.bool b) (k, n)
  | obj {k n : Int} {a : Addr} (hk : k ≠ 4) (h : ReadsIn news (.ref a) (dataOf k n)) : Thing prog w news (.ref a) (k, n)
  | dct {k n : Int} {a b c : Addr} {oa ob : Obj} {j : Nat} {u t1 t2 t3 t4 t5 : Tok} (hk : k = 4) (na : (a == sysModules) = false) (nb : (b == sysModules) = false)
      (ma : (a, oa) ∈ news) (mb : (b, ob) ∈ news) (mc : (c, listOf #[.str (Str.ofString "/") t5] j) ∈ news)
      (da : oa.IsDictOf (PySem.strKind prog w) (strPairs [(.str (Str.ofString "name") t1, .int n u), (.str (Str.ofString "path") t2, .ref c), (.str (Str.ofString "domain") t3, .ref b)]))
      (db : ob.IsDictOf (PySem.strKind prog w) (strPairs [(.str (Str.ofString ".com") t4, .int n u)])) : Thing prog w news (.ref a) (k, n)

theorem Thing.mono {prog : Program} {w : World} {news news' : List (Addr × Obj)} {v : Value} {d : Int × Int} (h : Thing prog w news v d) (hs : ∀ p ∈ news, p ∈ news') : Thing prog w news' v d := by
  cases h with
  | non hk => exact .non hk
  | int hk => exact .int hk
  | str hk h => exact .str hk h
  | boo hk h => exact .boo hk h
  | obj hk h => exact .obj hk fun h₀ L x N => h h₀ L x fun p hp => N p (hs p hp)
  | dct hk na nb ma mb mc da db => exact .dct hk na nb (hs _ ma) (hs _ mb) (hs _ mc) da db

section
variable {prog : Program} {w : World} {A : Around} {E : Value → Shared → Prop} {s : Shared} {news : List (Addr × Obj)} {h₀ : Heap} {L : Addr}
theorem Thing.reads {v : Value} {k n : Int} (h : Thing prog w news v (k, n)) (hk : k ≠ 4) (N : News h₀ L s.heap news) : ∃ as, Reads s.heap v (dataOf k n) as := by
  cases h with
  | non hk => subst hk; exact ⟨_, .none⟩
  | int hk => subst hk; exact ⟨_, .int _ _⟩
  | str _ h => rw [h]; exact ⟨_, .str _ _⟩
  | boo _ h => rw [h]; exact ⟨_, .bool _⟩
  | obj _ h => exact h _ _ _ N
  | dct h => exact absurd h hk

theorem eqAt_int (A : Around) (s : Shared) (n : Int) (t u : Tok) : SeqAt.EqAt A s (.int n t) (.int n u) true := by
  have e := SeqAt.EqAt.int_int (A := A) (s := s) n t n u
  rwa [beq_self_eq_true] at e
/-- the thing, and the thing made anew: != says False -/
theorem thing_ne {v v' : Value} {d : Int × Int} {Q : Value → Shared → Prop} (h : Thing prog w news v d) (h' : Thing prog w news v' d) (N : News h₀ L s.heap news) (hu : A.units + 70 < cLine)
    (hq : Q (.bool false) s) : wpAny (model prog w) A (compareOp .NotEq v v') Q E s := by
  obtain ⟨k, n⟩ := d
  by_cases hk : k = 4
  · subst hk
    cases h with
    | obj e => exact absurd rfl e
    | non e => exact absurd e (by decide)
    | int e => exact absurd e (by decide)
    | str e => exact absurd rfl e
    | boo e => exact absurd rfl e
    | dct _ na nb ma mb mc da db =>
      cases h' with
      | non e => exact absurd e (by decide)
      | int e => exact absurd e (by decide)
      | str e => exact absurd rfl e
      | boo e => exact absurd rfl e
      | obj e => exact absurd rfl e
      | dct _ na' nb' ma' mb' mc' da' db' =>
        have u1 : A.in1.units + 64 < cLine := by have e := units_in1 A; omega
        have u2 : A.in1.units < cLine := by omega
        refine dict_ne na na' (Heap.dictOf_iff.mpr ⟨_, (N _ ma).1, da⟩) (Heap.dictOf_iff.mpr ⟨_, (N _ ma').1, da'⟩) rfl (by omega) ?_ hq
        intro p hp
        simp only [strPairs, List.mem_cons, List.not_mem_nil, or_false] at hp
        rcases hp with rfl | rfl | rfl
        · exact ⟨_, rfl, eqHere_of (eqAt_int _ _ n _ _)⟩
        · refine ⟨_, rfl, eqHere_of ?_⟩
          have e := keq_at (A := A) (s := s) (da := .list [.str (Str.ofString "/")]) (db := .list [.str (Str.ofString "/")]) (reads_list_at (N _ mc).1 rfl rfl (.cons (.str _ _) .nil)) (reads_list_at (N _ mc').1 rfl rfl (.cons (.str _ _) .nil)) (by decide +kernel) (by decide +kernel) u1
          have : PyData.eqv (.list [.str (Str.ofString "/")]) (.list [.str (Str.ofString "/")]) = true := by simp [PyData.eqv, PyData.eqvAll]
          rw [this] at e
          exact e
        · exact ⟨_, rfl, eqHere_dicts nb nb' (Heap.dictOf_iff.mpr ⟨_, (N _ mb).1, db⟩) (Heap.dictOf_iff.mpr ⟨_, (N _ mb').1, db'⟩) rfl u2 (.hit rfl (eqAt_int _ _ n _ _) .nil)⟩
  · obtain ⟨as, r⟩ := h.reads hk N
    obtain ⟨bs, r'⟩ := h'.reads hk N
    refine ne_dataH r r' (dataOf_shaped k n) (dataOf_shaped k n) (by omega) ?_
    rw [dataOf_eqv]
    exact hq
end

section
variable {prog : Program} {w : World} {A : Around} {E : Value → Shared → Prop} {s : Shared} {news : List (Addr × Obj)} {h₀ h : Heap} {L t D l : Addr} {ot : Obj}
/-- both things stand in the ledger -/
theorem things_ne {tl tl' : List (Addr × Obj)} {v v' : Value} {d : Int × Int} {Q : Value → Shared → Prop} (x : Thing prog w tl v d) (x' : Thing prog w tl' v' d) (N : News h₀ L s.heap news) (i : ∀ p ∈ tl, p ∈ news) (i' : ∀ p ∈ tl', p ∈ news) (hu : A.units + 70 < cLine)
    (hq : Q (.bool false) s) : wpAny (model prog w) A (compareOp .NotEq v v') Q E s := thing_ne (x.mono i) (x'.mono i') N hu hq
theorem news_add {n₂ : List (Addr × Obj)} (N₂ : News h₀ L h n₂) (m : (t, ot) ∈ n₂) (N : News h₀ L h news) : News h₀ L h ((t, ot) :: news) := by
  intro p hp
  rcases List.mem_cons.mp hp with rfl | hp
  · exact N₂ _ m
  · exact N p hp
theorem tup_ne {vs : Array Value} {n : Nat} (N : News h₀ L h news) (c : ot.cls = .type "tuple") (mt : (t, ot) ∈ news) (ml : (l, listOf vs n) ∈ news) : t ≠ l := by
  rintro rfl
  have e := (N _ mt).1.symm.trans (N _ ml).1
  have e' : ot = listOf vs n := Option.some.inj e
  rw [e'] at c
  exact absurd c (by show ¬ Value.type "list" = Value.type "tuple"; simp)
/-- error.args == () -/
theorem tup0_eq {nt nD : Nat} {Q : Value → Shared → Prop} (N : News h₀ L s.heap news) (c : ot.cls = .type "tuple") (d : ot.data = .seq [].toArray nt) (mt : (t, ot) ∈ news) (mD : (D, { cls := .type "tuple", data := .seq #[] nD }) ∈ news) (hu : A.units + 64 < cLine)
    (hq : Q (.bool true) s) : wpAny (model prog w) A (compareOp .Eq (.ref t) (.ref D)) Q E s :=
  eq_dataH (reads_tuple_at (N _ mt).1 c d .nil) (reads_tuple_at (N _ mD).1 rfl rfl .nil) (by decide +kernel) (by decide +kernel) hu hq
end

section
variable {prog : Program} {w : World} {news tl : List (Addr × Obj)} {k n : Int}
theorem th_com {t : Tok} (hk : k = 2) (hn : 0 < n) : Thing prog w news (.str (Str.ofString ".a.com") t) (k, n) := .str (by omega) (by subst hk; simp [dataOf, hn])
theorem th_sla {t : Tok} (hk : k = 2) (hn : ¬ 0 < n) : Thing prog w news (.str (Str.ofString "/a") t) (k, n) := .str (by omega) (by subst hk; simp [dataOf, hn])
theorem th_emp {t : Tok} (hk : k = 6) : Thing prog w news (.str (Str.ofString "") t) (k, n) := .str (by omega) (by subst hk; simp [dataOf])
theorem th_boo (h0 : k ≠ 0) (h1 : k ≠ 1) (h2 : k ≠ 2) (h3 : k ≠ 3) (h4 : k ≠ 4) (h5 : k ≠ 5) (h6 : k ≠ 6) : Thing prog w news (.bool (decide (n.fmod 2 = 1))) (k, n) := .boo h4 (by simp [dataOf, h0, h1, h2, h3, h5, h6])
theorem th_lst {a b c : Addr} {i j l : Nat} {u u' t : Tok} (hk : k = 3) :
    Thing prog w [(a, listOf #[.int n u, .ref b] i), (b, listOf #[.str (Str.ofString "a") t, .ref c] j), (c, listOf #[.int n u'] l)] (.ref a) (k, n) := by
  refine .obj (by omega) fun h₀ L h N => ?_
  subst hk
  have h1 := (N _ (.head _)).1
  have h2 := (N _ (.tail _ (.head _))).1
  have h3 := (N _ (.tail _ (.tail _ (.head _)))).1
  have r3 : Reads h (.ref c) (.list [.int n]) _ := reads_list_at h3 rfl rfl (.cons (.int _ _) .nil)
  have r2 : Reads h (.ref b) (.list [.str (Str.ofString "a"), .list [.int n]]) _ := reads_list_at h2 rfl rfl (.cons (.str _ _) (.cons r3 .nil))
  exact ⟨_, reads_list_at h1 rfl rfl (.cons (.int _ _) (.cons r2 .nil))⟩
theorem th_tup {a b : Addr} {i j : Nat} {u t : Tok} (hk : k = 5) :
    Thing prog w [(a, { cls := .type "tuple", data := .seq #[.int n u, .str (Str.ofString "b") t, .ref b] i }), (b, listOf #[.none] j)] (.ref a) (k, n) := by
  refine .obj (by omega) fun h₀ L h N => ?_
  subst hk
  have h1 := (N _ (.head _)).1
  have h2 := (N _ (.tail _ (.head _))).1
  have r2 : Reads h (.ref b) (.list [.none]) _ := reads_list_at h2 rfl rfl (.cons .none .nil)
  exact ⟨_, reads_tuple_at h1 rfl rfl (.cons (.int _ _) (.cons (.str _ _) (.cons r2 .nil)))⟩

theorem th_dct {a b c : Addr} {oa ob : Obj} {j : Nat} {u t1 t2 t3 t4 t5 : Tok} (hk : k = 4) (na : (a == sysModules) = false) (nb : (b == sysModules) = false)
    (da : oa.IsDictOf (PySem.strKind prog w) (strPairs [(.str (Str.ofString "name") t1, .int n u), (.str (Str.ofString "path") t2, .ref c), (.str (Str.ofString "domain") t3, .ref b)]))
    (db : ob.IsDictOf (PySem.strKind prog w) (strPairs [(.str (Str.ofString ".com") t4, .int n u)])) :
    Thing prog w [(b, ob), (c, listOf #[.str (Str.ofString "/") t5] j), (a, oa)] (.ref a) (k, n) :=
  .dct hk na nb (.tail _ (.tail _ (.head _))) (.head _) (.tail _ (.head _)) da db

theorem news3 {h₀ h : Heap} {L : Addr} {p q r : Addr × Obj} (N : News h₀ L h (p :: q :: r :: news)) : News h₀ L h (news ++ [p, q, r]) := fun x hx => N x (by
  rcases List.mem_append.mp hx with hx | hx
  · exact .tail _ (.tail _ (.tail _ hx))
  · simp only [List.mem_cons, List.not_mem_nil, or_false] at hx ⊢
    rcases hx with rfl | rfl | rfl <;> simp)
theorem news2 {h₀ h : Heap} {L : Addr} {p q : Addr × Obj} (N : News h₀ L h (p :: q :: news)) : News h₀ L h (news ++ [p, q]) := fun x hx => N x (by
  rcases List.mem_append.mp hx with hx | hx
  · exact .tail _ (.tail _ hx)
  · simp only [List.mem_cons, List.not_mem_nil, or_false] at hx ⊢
    rcases hx with rfl | rfl <;> simp)
theorem off0 {adr : List Addr} : OwnOff [] adr := fun _ h => nomatch h
theorem off3 {a b c : Addr} {oa ob oc : Obj} (ha : ∀ p ∈ news, p.1 < a) (hb : ∀ p ∈ news, p.1 < b) (hc : ∀ p ∈ news, p.1 < c) : OwnOff [(a, oa), (b, ob), (c, oc)] (news.map (·.1)) := by
  intro p hp x hx
  obtain ⟨q, hq, rfl⟩ := List.mem_map.mp hx
  simp only [List.mem_cons, List.not_mem_nil, or_false] at hp
  rcases hp with rfl | rfl | rfl
  · exact Nat.ne_of_gt (ha q hq)
  · exact Nat.ne_of_gt (hb q hq)
  · exact Nat.ne_of_gt (hc q hq)
theorem off2 {a b : Addr} {oa ob : Obj} (ha : ∀ p ∈ news, p.1 < a) (hb : ∀ p ∈ news, p.1 < b) : OwnOff [(a, oa), (b, ob)] (news.map (·.1)) := by
  intro p hp x hx
  obtain ⟨q, hq, rfl⟩ := List.mem_map.mp hx
  simp only [List.mem_cons, List.not_mem_nil, or_false] at hp
  rcases hp with rfl | rfl
  · exact Nat.ne_of_gt (ha q hq)
  · exact Nat.ne_of_gt (hb q hq)
theorem lt_of3 {d : Addr} {p q : Prop} (h : p ∧ q ∧ AllLt d news) : ∀ x ∈ news, x.1 < d := ktn_ltOf h.2.2
theorem lt_of2 {d : Addr} {p : Prop} (h : p ∧ AllLt d news) : ∀ x ∈ news, x.1 < d := ktn_ltOf h.2
end

theorem strs_item {us : List Value} {xs : List Str} (h : StrsAre us xs) : ∀ (j : Nat) (hj : j < us.length), ∃ x t, xs[j]? = some x ∧ us[j] = .str x t := by
  induction h with
  | nil => intro j hj; exact absurd hj (Nat.not_lt_zero _)
  | cons x t _ ih =>
    intro j hj
    cases j with
    | zero => exact ⟨_, _, rfl, rfl⟩
    | succ j =>
      obtain ⟨y, u, e, e'⟩ := ih j (by simpa using hj)
      exact ⟨y, u, by simpa using e, by simpa using e'⟩
/-- told == due: two lists of the same texts -/
theorem strs_eq {prog : Program} {w : World} {A : Around} {E : Value → Shared → Prop} {s : Shared} {news : List (Addr × Obj)} {h₀ : Heap} {L l₁ l₂ : Addr} {us vs : List Value} {n₁ n₂ : Nat} {xs : List Str} {Q : Value → Shared → Prop}
    (N : News h₀ L s.heap news) (m₁ : (l₁, listOf us.toArray n₁) ∈ news) (m₂ : (l₂, listOf vs.toArray n₂) ∈ news) (a : StrsAre us xs) (b : StrsAre vs xs) (hu : A.units + 64 < cLine) (hq : Q (.bool true) s) :
    wpAny (model prog w) A (compareOp .Eq (.ref l₁) (.ref l₂)) Q E s := by
  have h1 : s.heap.IsList l₁ us.toArray := ⟨_, (N _ m₁).1, rfl, n₁, rfl⟩
  have h2 : s.heap.IsList l₂ vs.toArray := ⟨_, (N _ m₂).1, rfl, n₂, rfl⟩
  refine SeqAt.eq_listAt (e := fun _ => true) h1 h2 (by rw [List.size_toArray, List.size_toArray, a.length, b.length]) (by omega) (fun j i1 i2 => ?_) ?_
  · obtain ⟨x, t, e, e1⟩ := strs_item a j (by simpa using i1)
    obtain ⟨y, u, e', e2⟩ := strs_item b j (by simpa using i2)
    rw [e] at e'
    obtain rfl := Option.some.inj e'
    have k := SeqAt.EqAt.str_str (A := A.in1) (s := s) x t x u
    rw [beq_self_eq_true] at k
    rw [List.getElem_toArray, List.getElem_toArray, e1, e2]
    exact k
  · have all : (List.range us.toArray.size).all (fun _ => true) = true := by simp
    rw [all]
    exact hq

/-- behind a part of the walk: the frame holds a list of ints, at most 24, under one name; else it is as it was -/
def Joined (h₀ : Heap) (L : Addr) (x : Str) (m : Str → Option Value) (s : Shared) (f : Flow) (s' : Shared) : Prop :=
  f = .next ∧ ∃ h tk l vs ns nn, s' = { s with heap := h, toks := tk } ∧ Fr h₀ L h (fun y => if y = x then some (.ref l) else m y) ∧ News h₀ L h [(l, listOf (List.toArray vs) nn)] ∧ IntsAre vs ns ∧ ns.length ≤ 24
theorem joined_of {h₀ : Heap} {L : Addr} {x : Str} {m : Str → Option Value} {s : Shared} {h : Heap} {tk : Nat} {l : Addr} {vs : List Value} {ns : List Int} {nn : Nat} {news : List (Addr × Obj)}
    (F : Fr h₀ L h (fun y => if y = x then some (.ref l) else m y)) (N : News h₀ L h news) (hm : (l, listOf vs.toArray nn) ∈ news) (hi : IntsAre vs ns) (hl : ns.length ≤ 24) :
    Joined h₀ L x m s .next { s with heap := h, toks := tk } := by
  refine ⟨rfl, h, tk, l, vs, ns, nn, rfl, F, fun p hp => ?_, hi, hl⟩
  rw [List.mem_singleton.mp hp]
  exact N _ hm
theorem fr_twice {h₀ : Heap} {L : Addr} {h : Heap} {x : Str} {m : Str → Option Value} {v w : Value} (F : Fr h₀ L h (fun y => if y = x then some v else if y = x then some w else m y)) : Fr h₀ L h (fun y => if y = x then some v else m y) := by
  have e : (fun y => if y = x then some v else if y = x then some w else m y) = fun y => if y = x then some v else m y := by
    funext y
    by_cases hy : y = x <;> simp [hy]
  rw [← e]
  exact F
theorem ints4 {a b c d : Int} {t u v w : Tok} : IntsAre [.int a t, .int b u, .int c v, .int d w] [a, b, c, d] := .cons _ _ (.cons _ _ (.cons _ _ (.cons _ _ .nil)))
theorem join_at {prog : Program} {w : World} {A : Around} {t : Sem Flow} {h₀ : Heap} {L : Addr} {x : Str} {m : Str → Option Value} {s : Shared} {l : Addr} {Q : Flow → Shared → Prop} {E : Value → Shared → Prop}
    (hF : Fr h₀ L s.heap (fun y => if y = x then some (.ref l) else m y)) (walk : wpAny (model prog w) A t (Joined h₀ L x m s) E s)
    (rest : ∀ h tk l vs ns nn, Fr h₀ L h (fun y => if y = x then some (.ref l) else m y) → News h₀ L h [(l, listOf (List.toArray vs) nn)] → IntsAre vs ns → ns.length ≤ 24 → Q .next { s with heap := h, toks := tk }) :
    wpAny (model prog w) A t Q E s := by
  refine wpAny_mono walk (fun f s' => ?_) fun _ _ e => e
  rintro ⟨rfl, h, tk, l, vs, ns, nn, rfl, F, N, hi, hl⟩
  exact rest h tk l vs ns nn F N hi hl

/-- the contract of _law_thing, whose address is 70 -/
def ThingMade (prog : Program) (w : World) (K : Frag) (p : Program) (loose : List Str) (mean : ExcName → Option Value) (mg mb : Str → Option Value) : Prop :=
  ∀ (dp un : Nat) (gd : Option (List Code)) (cn : Str) (cs : Scope) (a : Addr) (ccd : Value) (cl : List (Str × Addr)) (outer : List Env) (A₀ : Around) (base h₀ : Heap) (L : Addr) (m : Str → Option Value) (news : List (Addr × Obj)) (s : Shared) (k n : Int) (t u : Tok)
    (Q E : Value → Shared → Prop),
    Below A₀ base outer h₀ → Fr h₀ L s.heap m → K.In h₀ → News h₀ L s.heap news → Top p loose mean mg mb h₀ → cs.kind = .function → dp + 2 < recursionLimit → un + 16 < cLine →
    (∀ r tl h' tk', Fr h₀ L h' m → News h₀ L h' (news ++ tl) → OwnOff tl (news.map (·.1)) → Thing prog w tl r (k, n) → Q r { s with heap := h', toks := tk' }) →
    wpAny (model prog w) (ktrTop dp un gd cn cs L a ccd cl outer) (call (.ref 70) [.int k t, .int n u]) Q E s
theorem use_thing {prog : Program} {w : World} {K : Frag} {p : Program} {loose : List Str} {mean : ExcName → Option Value} {mg mb : Str → Option Value}
    {dp un : Nat} {gd : Option (List Code)} {cn : Str} {cs : Scope} {a : Addr} {ccd : Value} {cl : List (Str × Addr)} {outer : List Env} {A₀ : Around} {base h₀ : Heap} {L : Addr} {m : Str → Option Value} {news : List (Addr × Obj)} {s : Shared} {k n : Int} {t u : Tok}
    {Q E : Value → Shared → Prop} (C : ThingMade prog w K p loose mean mg mb) (B : Below A₀ base outer h₀) (F : Fr h₀ L s.heap m) (X : K.In h₀) (N : News h₀ L s.heap news) (T : Top p loose mean mg mb h₀) (hk : cs.kind = .function)
    (hd : dp + 2 < recursionLimit) (hu : un + 16 < cLine)
    (ret : ∀ r tl h' tk', Fr h₀ L h' m → News h₀ L h' (news ++ tl) → OwnOff tl (news.map (·.1)) → Thing prog w tl r (k, n) → Q r { s with heap := h', toks := tk' }) :
    wpAny (model prog w) (ktrTop dp un gd cn cs L a ccd cl outer) (call (.ref 70) [.int k t, .int n u]) Q E s :=
  C _ _ _ _ _ _ _ _ _ _ _ _ _ _ _ _ _ _ _ _ _ _ B F X N T hk hd hu ret
theorem with_thing {h₀ : Heap} {K : Frag} {p : Program} {loose : List Str} {mean : ExcName → Option Value} {mg mb : Str → Option Value} {prog : Program} {w : World} {A : Around} {t : Sem Flow} {Q : Flow → Shared → Prop} {E : Value → Shared → Prop} {s : Shared}
    (hT : Top p loose mean mg mb h₀) (hX : K.In h₀) (C : ThingMade prog w K p loose mean mg mb) (h : ThingMade prog w K p loose mean mg mb → wpAny (model prog w) A t Q E s) : wpAny (model prog w) A t Q E s := h C
theorem deed4 {M : Model} {A : Around} {env : Env} {x : Str} {k : Int} {t : Tok} {Q : Unit → Shared → Prop} {E : Value → Shared → Prop} {s : Shared}
    (h0 : k.fmod 4 = 0 → wpAny M A (storeName env x (.int 0 t)) Q E s) (h1 : k.fmod 4 = 1 → wpAny M A (storeName env x (.int 1 t)) Q E s)
    (h2 : k.fmod 4 = 2 → wpAny M A (storeName env x (.int 2 t)) Q E s) (h3 : k.fmod 4 = 3 → wpAny M A (storeName env x (.int 3 t)) Q E s) :
    wpAny M A (storeName env x (.int (k.fmod 4) t)) Q E s := by
  have a := fmod_lo k (n := 4) (by decide)
  have b := fmod_hi k (n := 4) (by decide)
  by_cases e0 : k.fmod 4 = 0
  · rw [e0]; exact h0 e0
  by_cases e1 : k.fmod 4 = 1
  · rw [e1]; exact h1 e1
  by_cases e2 : k.fmod 4 = 2
  · rw [e2]; exact h2 e2
  have e3 : k.fmod 4 = 3 := by omega
  rw [e3]; exact h3 e3
end Mine

open Mine
-- lines of the walk for this law: the newest is tried first; those of calls spare the slow search of the general lines
local macro_rules | `(tactic| walk_at "callWith builtin:list.append cons nil") => `(tactic| (with_unfolding_all refine callWith_method1 ?_))
local macro_rules | `(tactic| walk_at "callWith ref nil nil") => `(tactic| ((with_reducible show wpAny _ _ (callWith _ (Value.ref _) [] (backTo _ (starEach (_ :: _) _)) []) _ _ _); (fail_if_success (with_reducible show wpAny _ _ (callWith _ (Value.ref 70) _ _ _) _ _ _)); k_here; k_dflt (refine' callWith_M ?k1 ?k2 ?k3 ?k4 ?_; (case k1 => k_asm); (case k2 => k_asm); (case k3 => k_mem); (case k4 => k_is); k_whole)))
local macro_rules | `(tactic| k_in) => `(tactic| with_reducible exact Frag.In.keeps (by assumption) (Fr.keep (by assumption)))
local macro_rules | `(tactic| walk_at "callWith ref nil nil") => `(tactic| ((with_reducible show wpAny _ _ (callWith _ (Value.ref 52) [] (backTo _ (starEach [] _)) []) _ _ _); k_here; k_dflt (refine' callWith_K0 ?k1 ?k2 ?_; (case k1 => k_in); (case k2 => k_is); k_whole)))
local macro_rules | `(tactic| walk_at "callWith ref cons") => `(tactic| ((with_reducible show wpAny _ _ (callWith _ (Value.ref _) [_] (backTo _ (starEach [] _)) (backToKw _ _)) _ _ _); k_here; k_dflt (refine' callWith_KW0 ?k1 ?k2 ?k3 ?_; (case k1 => k_asm); (case k2 => k_is); (case k3 => exact rfl); k_whole)))
local macro_rules | `(tactic| walk_at "call ref cons nil") => `(tactic| ((with_reducible show wpAny _ _ (call (Value.ref _) [_, _]) _ _ _); k_here; k_dflt (refine' call_meth ?k1 ?k2 ?_; (case k1 => k_asm); (case k2 => k_mem); k_whole; k_enter)))
local macro_rules | `(tactic| walk_at "exec If Compare cons nil") => `(tactic| ((with_reducible show wpAny _ _ (exec (Stmt.If (Expr.Compare (Expr.Name (Str.ofString "digits") _) _ _ _) _ _ _) _) _ _ _); goal_lacks Mine.Joined; k_here; (rename Fr _ _ _ _ => fJ); (with_unfolding_all refine' join_at fJ ?_ ?_); rotate_left; (intro h9 tk9 l9 vs9 ns9 nn9 F9 N9 i9 n9); (try dsimp only); (try k_fold); rotate_right))
local macro_rules | `(tactic| walk_at "Joined") => `(tactic| first | exact joined_of (fr_twice (by k_asm)) (by k_asm) (by k_mem) ints4 (by decide) | exact joined_of (by k_asm) (by k_asm) (by k_mem) (by assumption) (by assumption))
local macro_rules | `(tactic| walk_at "call ref cons nil") => `(tactic| ((with_reducible show wpAny _ _ (call (Value.ref 70) [Value.int _ _, Value.int _ _]) _ _ _); k_here; (with_unfolding_all refine' use_thing ?k0 ?k1 ?k2 ?k3 ?k4 ?k5 ?k6 ?k7 ?k8 ?_; (case k0 => assumption); (case k1 => k_asm); (case k2 => k_asm); (case k3 => k_asm); (case k4 => k_asm); (case k5 => k_asm); (case k6 => exact rfl); (case k7 => ktr_room); (case k8 => ktr_units)); intro r9 tl9 h9 tk9 F9 N9 o9 th9; (try simp only [List.nil_append, List.cons_append, List.append_nil, List.append_assoc] at N9); (try simp only [List.map_cons, List.map_nil] at o9); (try dsimp only); (try k_fold)))
local macro_rules | `(tactic| walk_at "newTuple nil") => `(tactic| ((rename Got _ _ _ _ _ => gG); (obtain ⟨_, oT, _, _, _, mT, _, _, _, cT, dT⟩ := gG); (have nT := news_add (by assumption) mT (by assumption))))
local macro_rules | `(tactic| k_ne) => `(tactic| first | (refine neN ?_; (try dsimp only); omega) | exact neN (tup_ne (by k_asm) (by assumption) (by k_mem) (by k_mem)))
local macro_rules | `(tactic| walk_at "compareOp Eq ref ref") => `(tactic| ((with_reducible rename _ = Value.type "tuple" => cT); k_here; (with_unfolding_all refine' tup0_eq ?N ?c ?d ?mt ?mD ?u ?_; (case N => k_asm); (case c => exact cT); (case d => assumption); (case mt => k_mem); (case mD => k_mem); (case u => ktr_units))))
local macro_rules | `(tactic| walk_at "compareOp NotEq") => `(tactic| (k_here; (with_unfolding_all refine' things_ne ?x ?x' ?N ?i ?i' ?u ?_; (case x => assumption); (case x' => assumption); (case N => k_asm); (case i => (intro p hp; simp only [List.mem_append, List.mem_cons, hp, or_true, true_or])); (case i' => (intro p hp; simp only [List.mem_append, List.mem_cons, hp, or_true, true_or])); (case u => ktr_units))))
local macro_rules | `(tactic| walk_at "compareOp Eq ref ref") => `(tactic| (k_here; k_dflt (refine' strs_eq ?sN ?s1 ?s2 ?s3 ?s4 ?s5 ?_; (case sN => k_asm); (case s1 => k_mem); (case s2 => k_mem); (case s3 => k_asm); (case s4 => k_asm); (case s5 => ktr_units))))
set_option maxRecDepth 100000 in
set_option maxHeartbeats 8000000 in
theorem PySem.Challenge.cw_km0026_02_holds : PySem.Challenge.rw_km0026_02.Holds := by
  (k_with "storeName" => refine deed4 ?_ ?_ ?_ ?_)
  (k_with "pyIter ref" => k_of "x" => k_state (fun (_ : List Int) ds => ds.length ≤ 24) "digits")
  (k_with "pyIter ref" => k_of "k" => k_state (fun (pre : List Int) t d => t = d ∧ d.length = pre.length) "told$" "due$")
  (k_with "exec While Compare cons nil" => k_while (fun (_ : List Int) ds r => ds.length ≤ 24) (fun (_ : List Int) ds r => 24 - ds.length) "digits" "rest")
  w_on
  o_law
  k_head
  (case hw => w_witness2)
  k_go0
  (all_goals try k_fold)
  refine with_thing (by assumption) (by assumption) ?ct (fun Ct => ?_)
  case ct =>
    unfold ThingMade
    intro dp un gd cn cs a ccd cl outer A₀ base h₀ L m news s k n t u Q E B F X N T hk hd hu hret
    refine wpAny_call ?_
    k_dflt ktr_enter
    k_steps
    · exact hret _ [] _ _ (by k_asm) (ktn_tl0 (by k_asm)) off0 (.non (by assumption))
    · exact hret _ [] _ _ (by k_asm) (ktn_tl0 (by k_asm)) off0 (.int (by assumption))
    · exact hret _ [] _ _ (by k_asm) (ktn_tl0 (by k_asm)) off0 (th_com (by assumption) (by assumption))
    · exact hret _ [] _ _ (by k_asm) (ktn_tl0 (by k_asm)) off0 (th_sla (by assumption) (by assumption))
    · exact hret _ [_, _, _] _ _ (by k_asm) (news3 (by k_asm)) (off3 (lt_of3 (by assumption)) (lt_of2 (by assumption)) (by assumption)) (th_lst (by assumption))
    · exact hret _ [_, _, _] _ _ (by k_asm) (news3 (by k_asm)) (off3 (lt_of3 (by assumption)) (lt_of2 (by assumption)) (by assumption)) (th_dct (by assumption) (by assumption) (by assumption) (by assumption) (by assumption))
    · exact hret _ [_, _] _ _ (by k_asm) (news2 (by k_asm)) (off2 (lt_of2 (by assumption)) (by assumption)) (th_tup (by assumption))
    · exact hret _ [] _ _ (by k_asm) (ktn_tl0 (by k_asm)) off0 (th_emp (by assumption))
    · exact hret _ [] _ _ (by k_asm) (ktn_tl0 (by k_asm)) off0 (th_boo (by assumption) (by assumption) (by assumption) (by assumption) (by assumption) (by assumption) (by assumption))
  k_steps
  (all_goals (try k_data))
  all_goals w_report
