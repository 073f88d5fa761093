import PyProof.Rows.All
import Wide.All
import OpenK.AllK
import Wide.FinOn
import PySem.Challenge.RW_rw0062_01
open PySem PySem.W PyProof.Rows
set_option Elab.async false
set_option linter.unusedVariables false
set_option maxRecDepth 100000
-- F1
namespace Mine

abbrev Up (h h' : Heap) : Prop := ∀ b o, h.get? b = some o → h'.get? b = some o
theorem Up.refl (h : Heap) : Up h h := fun _ _ e => e
theorem Up.trans {a b c : Heap} (x : Up a b) (y : Up b c) : Up a c := fun _ _ e => y _ _ (x _ _ e)
theorem Up.push (h : Heap) (o : Obj) : Up h (h.push o) := fun _ _ e => Heap.get?_push_of_some _ e

/-- a sequence or a dict lies there -/
noncomputable def Kept (o : Obj) : Prop := (∃ vs n, o.data = .seq vs n) ∨ ∃ es n, o.data = .dict es n
/-- sequences and dicts beyond M stay, and beyond M' -/
noncomputable def Stays (M M' : List Addr) (h h' : Heap) : Prop := ∀ b o, b ∉ M → Kept o → h.get? b = some o → h'.get? b = some o ∧ b ∉ M'
theorem Up.stays {h h' : Heap} (u : Up h h') {M M' : List Addr} (hm : ∀ a ∈ M', a ∈ M) : Stays M M' h h' := fun b o hb _ e => ⟨u b o e, fun q => hb (hm b q)⟩

mutual
noncomputable def Is (M : List Addr) (h : Heap) : PyData → Value → Prop
  | .none, v => v = .none
  | .bool b, v => v = .bool b
  | .int i, v => ∃ t, v = .int i t
  | .str x, v => ∃ t, v = .str x t
  | .list ds, v => ∃ a vs, v = .ref a ∧ a ∉ M ∧ h.IsList a vs ∧ IsAll M h ds vs.toList
  | .tuple ds, v => ∃ a vs, v = .ref a ∧ a ∉ M ∧ h.IsTuple a vs ∧ IsAll M h ds vs.toList
  | .dict _, _ => False
noncomputable def IsAll (M : List Addr) (h : Heap) : List PyData → List Value → Prop
  | [], vs => vs = []
  | d :: ds, vs => ∃ v r, vs = v :: r ∧ Is M h d v ∧ IsAll M h ds r
end

theorem isList_stays {M M' : List Addr} {h h' : Heap} {a : Addr} {vs : Array Value} (x : h.IsList a vs) (u : Stays M M' h h') (ha : a ∉ M) : h'.IsList a vs ∧ a ∉ M' :=
  let ⟨o, h1, h2, n, h3⟩ := x; let ⟨e, q⟩ := u a o ha (.inl ⟨_, _, h3⟩) h1; ⟨⟨o, e, h2, n, h3⟩, q⟩
theorem isTuple_stays {M M' : List Addr} {h h' : Heap} {a : Addr} {vs : Array Value} (x : h.IsTuple a vs) (u : Stays M M' h h') (ha : a ∉ M) : h'.IsTuple a vs ∧ a ∉ M' :=
  let ⟨o, h1, h2, n, h3⟩ := x; let ⟨e, q⟩ := u a o ha (.inl ⟨_, _, h3⟩) h1; ⟨⟨o, e, h2, n, h3⟩, q⟩

mutual
theorem Is.stays {M M' : List Addr} {h h' : Heap} (u : Stays M M' h h') : ∀ {d : PyData} {v : Value}, Is M h d v → Is M' h' d v
  | .none, _, x => x
  | .bool _, _, x => x
  | .int _, _, x => x
  | .str _, _, x => x
  | .list ds, v, x => by
    unfold Is at x ⊢
    obtain ⟨a, vs, e, ha, hl, hr⟩ := x
    exact ⟨a, vs, e, (isList_stays hl u ha).2, (isList_stays hl u ha).1, IsAll.stays u hr⟩
  | .tuple ds, v, x => by
    unfold Is at x ⊢
    obtain ⟨a, vs, e, ha, hl, hr⟩ := x
    exact ⟨a, vs, e, (isTuple_stays hl u ha).2, (isTuple_stays hl u ha).1, IsAll.stays u hr⟩
  | .dict _, _, x => by unfold Is at x; exact x.elim
theorem IsAll.stays {M M' : List Addr} {h h' : Heap} (u : Stays M M' h h') : ∀ {ds : List PyData} {vs : List Value}, IsAll M h ds vs → IsAll M' h' ds vs
  | [], _, x => x
  | d :: ds, vs, x => by
    unfold IsAll at x ⊢
    obtain ⟨v, r, e, hd, hr⟩ := x
    exact ⟨v, r, e, Is.stays u hd, IsAll.stays u hr⟩
end
theorem Is.up {M : List Addr} {h h' : Heap} {d : PyData} {v : Value} (x : Is M h d v) (u : Up h h') : Is M h' d v := x.stays (u.stays fun _ h => h)
theorem IsAll.up {M : List Addr} {h h' : Heap} {ds : List PyData} {vs : List Value} (x : IsAll M h ds vs) (u : Up h h') : IsAll M h' ds vs := x.stays (u.stays fun _ h => h)
theorem Is.weak {M M' : List Addr} {h : Heap} {d : PyData} {v : Value} (x : Is M h d v) (hm : ∀ a ∈ M', a ∈ M) : Is M' h d v := x.stays ((Up.refl h).stays hm)
theorem IsAll.weak {M M' : List Addr} {h : Heap} {d : List PyData} {v : List Value} (x : IsAll M h d v) (hm : ∀ a ∈ M', a ∈ M) : IsAll M' h d v := x.stays ((Up.refl h).stays hm)

mutual
theorem Is.reads {M : List Addr} {h : Heap} : ∀ {d : PyData} {v : Value}, Is M h d v → ∃ as, Reads h v d as
  | .none, v, x => by unfold Is at x; subst x; exact ⟨_, .none⟩
  | .bool _, v, x => by unfold Is at x; subst x; exact ⟨_, .bool _⟩
  | .int _, v, x => by unfold Is at x; obtain ⟨t, rfl⟩ := x; exact ⟨_, .int _ _⟩
  | .str _, v, x => by unfold Is at x; obtain ⟨t, rfl⟩ := x; exact ⟨_, .str _ _⟩
  | .list ds, v, x => by
    unfold Is at x
    obtain ⟨a, vs, rfl, ha, ⟨o, h1, h2, n, h3⟩, hr⟩ := x
    obtain ⟨as, r⟩ := IsAll.reads hr
    exact ⟨_, .list h1 h2 h3 r⟩
  | .tuple ds, v, x => by
    unfold Is at x
    obtain ⟨a, vs, rfl, ha, ⟨o, h1, h2, n, h3⟩, hr⟩ := x
    obtain ⟨as, r⟩ := IsAll.reads hr
    exact ⟨_, .tuple h1 h2 h3 r⟩
  | .dict _, _, x => by unfold Is at x; exact x.elim
theorem IsAll.reads {M : List Addr} {h : Heap} : ∀ {ds : List PyData} {vs : List Value}, IsAll M h ds vs → ∃ as, ReadsAll h vs ds as
  | [], vs, x => by unfold IsAll at x; subst x; exact ⟨_, .nil⟩
  | d :: ds, vs, x => by
    unfold IsAll at x
    obtain ⟨v, r, rfl, hd, hr⟩ := x
    obtain ⟨as, h1⟩ := Is.reads hd
    obtain ⟨bs, h2⟩ := IsAll.reads hr
    exact ⟨_, .cons h1 h2⟩
end

theorem is_int {M : List Addr} {h : Heap} {i : Int} {t : Tok} : Is M h (.int i) (.int i t) := by unfold Is; exact ⟨t, rfl⟩
theorem is_str {M : List Addr} {h : Heap} {x : Str} {t : Tok} : Is M h (.str x) (.str x t) := by unfold Is; exact ⟨t, rfl⟩
theorem is_bool {M : List Addr} {h : Heap} {b : Bool} : Is M h (.bool b) (.bool b) := by unfold Is; rfl
theorem is_none {M : List Addr} {h : Heap} : Is M h .none .none := by unfold Is; rfl
theorem Is.int {M : List Addr} {h : Heap} {i : Int} {v : Value} (x : Is M h (.int i) v) : ∃ t, v = .int i t := by unfold Is at x; exact x
theorem Is.str {M : List Addr} {h : Heap} {i : Str} {v : Value} (x : Is M h (.str i) v) : ∃ t, v = .str i t := by unfold Is at x; exact x
theorem Is.bool {M : List Addr} {h : Heap} {i : Bool} {v : Value} (x : Is M h (.bool i) v) : v = .bool i := by unfold Is at x; exact x
theorem Is.list {M : List Addr} {h : Heap} {ds : List PyData} {v : Value} (x : Is M h (.list ds) v) : ∃ a vs, v = .ref a ∧ a ∉ M ∧ h.IsList a vs ∧ IsAll M h ds vs.toList := by unfold Is at x; exact x
theorem is_list {M : List Addr} {h : Heap} {ds : List PyData} {a : Addr} {vs : Array Value} (ha : a ∉ M) (x : h.IsList a vs) (y : IsAll M h ds vs.toList) : Is M h (.list ds) (.ref a) := by unfold Is; exact ⟨a, vs, rfl, ha, x, y⟩
theorem Is.tuple {M : List Addr} {h : Heap} {ds : List PyData} {v : Value} (x : Is M h (.tuple ds) v) : ∃ a vs, v = .ref a ∧ a ∉ M ∧ h.IsTuple a vs ∧ IsAll M h ds vs.toList := by unfold Is at x; exact x
theorem is_tuple {M : List Addr} {h : Heap} {ds : List PyData} {a : Addr} {vs : Array Value} (ha : a ∉ M) (x : h.IsTuple a vs) (y : IsAll M h ds vs.toList) : Is M h (.tuple ds) (.ref a) := by unfold Is; exact ⟨a, vs, rfl, ha, x, y⟩
theorem isAll_nil {M : List Addr} {h : Heap} : IsAll M h [] [] := by unfold IsAll; rfl
theorem isAll_cons {M : List Addr} {h : Heap} {d : PyData} {ds : List PyData} {v : Value} {vs : List Value} (x : Is M h d v) (y : IsAll M h ds vs) : IsAll M h (d :: ds) (v :: vs) := by unfold IsAll; exact ⟨v, vs, rfl, x, y⟩
theorem IsAll.nil {M : List Addr} {h : Heap} {vs : List Value} (x : IsAll M h [] vs) : vs = [] := by unfold IsAll at x; exact x
theorem IsAll.cons {M : List Addr} {h : Heap} {d : PyData} {ds : List PyData} {vs : List Value} (x : IsAll M h (d :: ds) vs) : ∃ v r, vs = v :: r ∧ Is M h d v ∧ IsAll M h ds r := by unfold IsAll at x; exact x
theorem IsAll.length {M : List Addr} {h : Heap} : ∀ {ds : List PyData} {vs : List Value}, IsAll M h ds vs → vs.length = ds.length
  | [], _, x => by rw [x.nil]; rfl
  | _ :: _, _, x => by obtain ⟨v, r, rfl, _, y⟩ := x.cons; simp [IsAll.length y]
theorem IsAll.get {M : List Addr} {h : Heap} : ∀ {ds : List PyData} {vs : List Value} {i : Nat} {d : PyData}, IsAll M h ds vs → ds[i]? = some d → ∃ v, vs[i]? = some v ∧ Is M h d v
  | [], _, _, _, _, e => by simp at e
  | d :: ds, _, 0, _, x, e => by obtain ⟨v, r, rfl, y, _⟩ := x.cons; simp at e; subst e; exact ⟨v, rfl, y⟩
  | d :: ds, _, i + 1, _, x, e => by obtain ⟨v, r, rfl, _, y⟩ := x.cons; simp at e; obtain ⟨u, a, b⟩ := IsAll.get y e; exact ⟨u, by simpa using a, b⟩
theorem IsAll.get' {M : List Addr} {h : Heap} {ds : List PyData} {vs : List Value} {i : Nat} {v : Value} (x : IsAll M h ds vs) (e : vs[i]? = some v) : ∃ d, ds[i]? = some d ∧ Is M h d v := by
  have hi : i < ds.length := by rw [← x.length]; exact (List.getElem?_eq_some_iff.mp e).1
  obtain ⟨u, a, b⟩ := x.get (i := i) (d := ds[i]) (by simp [hi])
  rw [e] at a; cases a
  exact ⟨_, by simp [hi], b⟩
theorem isAll_append {M : List Addr} {h : Heap} : ∀ {ds es : List PyData} {vs us : List Value}, IsAll M h ds vs → IsAll M h es us → IsAll M h (ds ++ es) (vs ++ us)
  | [], _, _, _, x, y => by rw [x.nil]; simpa using y
  | _ :: _, _, _, _, x, y => by obtain ⟨v, r, rfl, a, b⟩ := x.cons; exact isAll_cons a (isAll_append b y)
theorem isAll_of {M : List Addr} {h : Heap} : ∀ {ds : List PyData} {vs : List Value}, vs.length = ds.length → (∀ (i : Nat) v d, vs[i]? = some v → ds[i]? = some d → Is M h d v) → IsAll M h ds vs
  | [], [], _, _ => isAll_nil
  | d :: ds, v :: vs, l, f => isAll_cons (f 0 v d rfl rfl) (isAll_of (by simpa using l) fun i v d a b => f (i + 1) v d (by simpa using a) (by simpa using b))
  | [], _ :: _, l, _ => by simp at l
  | _ :: _, [], l, _ => by simp at l

theorem Keeps.rfl (s : Shared) : Keeps s s := ⟨_, _, Eq.refl _, fun _ _ e => e⟩
theorem Keeps.tr {a b c : Shared} (x : Keeps a b) (y : Keeps b c) : Keeps a c := by
  obtain ⟨h, t, rfl, u⟩ := x
  obtain ⟨h', t', rfl, u'⟩ := y
  exact ⟨h', t', Eq.refl _, fun _ _ e => u' _ _ (u _ _ e)⟩
theorem Keeps.upto {a b : Shared} (x : Keeps a b) : Up a.heap b.heap := by
  obtain ⟨h, t, rfl, u⟩ := x
  exact u
theorem Keeps.tok {a b : Shared} (x : Keeps a b) (k : Nat) : Keeps a { b with toks := k } := by
  obtain ⟨h, t, rfl, u⟩ := x
  exact ⟨h, k, Eq.refl _, u⟩
theorem Keeps.heap {a b : Shared} (x : Keeps a b) {h' : Heap} {k : Nat} (v : Up b.heap h') : Keeps a { b with heap := h', toks := k } := by
  obtain ⟨h, t, rfl, u⟩ := x
  exact ⟨h', k, Eq.refl _, fun _ _ e => v _ _ (u _ _ e)⟩
theorem Keeps.push {a b : Shared} (x : Keeps a b) (o : Obj) : Keeps a { b with heap := b.heap.push o } := by
  obtain ⟨h, t, rfl, u⟩ := x
  exact ⟨_, t, Eq.refl _, fun _ _ e => Heap.get?_push_of_some _ (u _ _ e)⟩

/-- what a name may hold -/
inductive D where
  | d (p : PyData)
  | imap (f : Int → Option Str)
  | smap (f : Str → Option PyData)
  | tmap (f : Int → Option Str)
  | old (x : Str)
  | new (x : Str)
abbrev I (i : Int) : D := .d (.int i)
abbrev S (x : Str) : D := .d (.str x)
abbrev B (b : Bool) : D := .d (.bool b)
abbrev L (ds : List PyData) : D := .d (.list ds)
abbrev T (ds : List PyData) : D := .d (.tuple ds)

section
variable (prog : Program) (w : World)
noncomputable def IsD (M : List Addr) (h : Heap) : D → Value → Prop
  | .d p, v => Is M h p v
  | .imap f, v => ∃ a F, v = .ref a ∧ a ∉ M ∧ a ≠ sysModules ∧ h.MapOf (intKind prog w) a F ∧ ∀ k, match f k with | none => F k = none | some x => ∃ t, F k = some (.str x t)
  | .smap f, v => ∃ a F, v = .ref a ∧ a ∉ M ∧ a ≠ sysModules ∧ h.MapOf (strKind prog w) a F ∧ ∀ k, match f k with | none => F k = none | some x => ∃ u, F k = some u ∧ Is M h x u
  | .tmap f, v => ∃ a F, v = .ref a ∧ a ∉ M ∧ a ≠ sysModules ∧ h.MapOf (intKind prog w) a F ∧ ∀ k, match f k with | none => F k = none | some x => ∃ t, F k = some (.str x t) ∧ t ≠ 0 ∧ t < 630
  | .old x, v => ∃ t, v = .str x t ∧ t ≠ 0 ∧ t < 630
  | .new x, v => ∃ t, v = .str x t ∧ 630 ≤ t
variable {prog w}
theorem mapOf_stays {K : Type} [DecidableEq K] {knd : KeyKind prog w K} {M M' : List Addr} {h h' : Heap} {a : Addr} {F : K → Option Value} (x : h.MapOf knd a F) (u : Stays M M' h h') (ha : a ∉ M) : h'.MapOf knd a F ∧ a ∉ M' :=
  let ⟨o, es, ep, h1, h2, h3, r⟩ := x; let ⟨e, q⟩ := u a o ha (.inr ⟨_, _, h3⟩) h1; ⟨⟨o, es, ep, e, h2, h3, r⟩, q⟩
theorem IsD.stays {M M' : List Addr} {h h' : Heap} (u : Stays M M' h h') : ∀ {d : D} {v : Value}, IsD prog w M h d v → IsD prog w M' h' d v
  | .d p, v, x => Is.stays u x
  | .imap f, v, ⟨a, F, e, ha, hs, hm', hv⟩ => ⟨a, F, e, (mapOf_stays hm' u ha).2, hs, (mapOf_stays hm' u ha).1, hv⟩
  | .tmap f, v, ⟨a, F, e, ha, hs, hm', hv⟩ => ⟨a, F, e, (mapOf_stays hm' u ha).2, hs, (mapOf_stays hm' u ha).1, hv⟩
  | .old _, v, x => x
  | .new _, v, x => x
  | .smap f, v, ⟨a, F, e, ha, hs, hm', hv⟩ => ⟨a, F, e, (mapOf_stays hm' u ha).2, hs, (mapOf_stays hm' u ha).1, fun k => by
      have := hv k
      split at this
      · exact this
      · obtain ⟨t, h1, h2⟩ := this
        exact ⟨t, h1, h2.stays u⟩⟩
theorem IsD.up {M : List Addr} {h h' : Heap} {d : D} {v : Value} (x : IsD prog w M h d v) (u : Up h h') : IsD prog w M h' d v := x.stays (u.stays fun _ h => h)
theorem IsD.weak {M M' : List Addr} {h : Heap} {d : D} {v : Value} (x : IsD prog w M h d v) (hm : ∀ a ∈ M', a ∈ M) : IsD prog w M' h d v := x.stays ((Up.refl h).stays hm)
end
end Mine
-- F2
namespace Mine
abbrev pg : Program := Challenge.rw_rw0062_01.row.prog
/-- the k-th statement of the top, if a def -/
noncomputable def fArgs (k : Nat) : Arguments := match Challenge.pw_rw0062_01.main.body[k]? with | some (.FunctionDef _ a _ _ _ _ _ _ _ _) => a | _ => ⟨[], [], none, [], [], none, []⟩
noncomputable def fBody (k : Nat) : List Stmt := match Challenge.pw_rw0062_01.main.body[k]? with | some (.FunctionDef _ _ b _ _ _ _ _ _ _) => b | _ => []
noncomputable def fScope (k : Nat) : Scope := match Challenge.pw_rw0062_01.main.body[k]? with | some (.FunctionDef _ _ _ _ _ _ sc _ _ _) => sc | _ => ⟨.function, [], false, false, []⟩
noncomputable abbrev fNames (k : Nat) : List (Str × NameKind) := (fScope k).names

/-- the token table of the top -/
noncomputable def tokVal (x : Str) : Int := (Challenge.pw_rw0062_01.main.body.findSome? fun (st : Stmt) => match st with | Stmt.Assign [Expr.Name n _] (Expr.Constant (Const.int i) _ _) _ => if n == x then some i else none | _ => none).getD 0
noncomputable def tokTab : List (Str × Int) := match Challenge.pw_rw0062_01.main.body[52]? with
  | some (Stmt.Assign _ (Expr.Dict ks vs _) _) => (ks.zip vs).filterMap fun (p : Option Expr × Expr) => match p with
    | (some (.Constant (.str k) _ _), .Name n _) => some (k, tokVal n)
    | _ => none
  | _ => []

noncomputable def GN (h : Heap) (x : Str) (v : Value) : Prop := ∃ mg mb, h.Ns mainGlobals mg ∧ h.Ns builtinsNs mb ∧ (mg x = some v ∨ (mg x = none ∧ mb x = some v))
theorem GN.up {h h' : Heap} {x : Str} {v : Value} (g : GN h x v) (u : Up h h') : GN h' x v := let ⟨mg, mb, a, b, c⟩ := g; ⟨mg, mb, a.keeps u, b.keeps u, c⟩
noncomputable def FnAt (h : Heap) (x : Str) (k a : Nat) : Prop := ∃ o pm cd doc, h.get? a = some o ∧ o.data = .func (Calls.docDef x (fArgs k) (fBody k) (fScope k) pm cd doc) ∧ h.CodeRec cd x
theorem FnAt.up {h h' : Heap} {x : Str} {k a : Nat} (g : FnAt h x k a) (u : Up h h') : FnAt h' x k a := let ⟨o, pm, cd, doc, a, b, c⟩ := g; ⟨o, pm, cd, doc, u _ _ a, b, c.keeps u⟩
/-- name, place in the text, address -/
noncomputable def ftab : List (Str × Nat × Nat) := [(Str.ofString "ISTERMINAL", 53, 41), (Str.ofString "ISNONTERMINAL", 54, 48), (Str.ofString "ISEOF", 55, 55), (Str.ofString "_ellipsis_match", 58, 62), (Str.ofString "quotedata", 63, 79), (Str.ofString "_law_numbers", 65, 84), (Str.ofString "_law_kind", 66, 89), (Str.ofString "_law_words", 67, 96), (Str.ofString "_law_rows", 68, 101), (Str.ofString "law", 69, 106)]
noncomputable def rawTup (xs : List Int) : Obj := { cls := .type "tuple", data := .seq (xs.map rawInt).toArray 0 }
noncomputable def code1 : List Int := [14, 4, 0, 1, 1, 6, 1, 16, 46, 1]
noncomputable def code2 : List Int := [14, 9, 4, 1, 2, 16, 10, 16, 13, 0, 7, 7, 16, 13, 16, 10, 15, 18, 5, 16, 10, 15, 13, 11, 16, 13, 5, 5, 0, 16, 10, 1, 15, 2, 0, 1]

structure GL (w : World) (h : Heap) : Prop where
  nt : ∃ t, GN h (Str.ofString "NT_OFFSET") (.int 256 t)
  em : ∃ t, GN h (Str.ofString "ENDMARKER") (.int 0 t)
  el : ∃ t, GN h (Str.ofString "ELLIPSIS_MARKER") (.str (Str.ofString "...") t)
  cr : ∃ t, GN h (Str.ofString "CRLF") (.str (Str.ofString "\x0d\n") t)
  len : GN h (Str.ofString "len") (.builtin "len")
  sum : GN h (Str.ofString "sum") (.builtin "sum")
  sorted : GN h (Str.ofString "sorted") (.builtin "sorted")
  range : GN h (Str.ofString "range") (.type "range")
  fn : ∀ p ∈ ftab, GN h p.1 (.ref p.2.2) ∧ FnAt h p.1 p.2.1 p.2.2
  re1 : GN h (Str.ofString "_twin_re_1") (.ref 67) ∧ h.get? 66 = some (rawTup code1) ∧ ∃ p f, h.get? 67 = some { cls := .type "re.Pattern", data := .fields #[p, f, rawInt 0, .none, .none, .ref 66, rawInt 0] }
  re2 : GN h (Str.ofString "_twin_re_2") (.ref 72) ∧ h.get? 71 = some (rawTup code2) ∧ ∃ p f, h.get? 72 = some { cls := .type "re.Pattern", data := .fields #[p, f, rawInt 0, .none, .none, .ref 71, rawInt 0] }
  ex : GN h (Str.ofString "EXACT_TOKEN_TYPES") (.ref 32) ∧ ∃ kvs ep, h.DictAt (strKind pg w) 32 kvs ep ∧ h.MapOf (strKind pg w) 32 (fun k => kvs.lookup k) ∧ kvs.map (·.1) = tokTab.map (·.1) ∧ (∀ k, match tokTab.lookup k with | none => kvs.lookup k = none | some i => ∃ t, kvs.lookup k = some (.int i t)) ∧ ∃ o es, h.get? 32 = some o ∧ o.data = .dict es ep ∧ ∀ e ∈ es.toList, ∀ x t, e.key = .str x t → t ≠ 0 ∧ t < 630
  nl : h.NoLimit

theorem dictAt_up {w : World} {h h' : Heap} {a : Addr} {kvs ep} (x : h.DictAt (strKind pg w) a kvs ep) (u : Up h h') : h'.DictAt (strKind pg w) a kvs ep := let ⟨o, es, h1, r⟩ := x; ⟨o, es, u _ _ h1, r⟩
theorem mapOf_up {K : Type} [DecidableEq K] {w : World} {knd : KeyKind pg w K} {h h' : Heap} {a : Addr} {F} (x : h.MapOf knd a F) (u : Up h h') : h'.MapOf knd a F := let ⟨o, es, ep, h1, r⟩ := x; ⟨o, es, ep, u _ _ h1, r⟩
theorem GL.up {w : World} {h h' : Heap} (G : GL w h) (u : Up h h') : GL w h' where
  nt := let ⟨t, x⟩ := G.nt; ⟨t, x.up u⟩
  em := let ⟨t, x⟩ := G.em; ⟨t, x.up u⟩
  el := let ⟨t, x⟩ := G.el; ⟨t, x.up u⟩
  cr := let ⟨t, x⟩ := G.cr; ⟨t, x.up u⟩
  len := G.len.up u
  sum := G.sum.up u
  sorted := G.sorted.up u
  range := G.range.up u
  fn := fun p hp => let ⟨a, b⟩ := G.fn p hp; ⟨a.up u, b.up u⟩
  re1 := let ⟨a, b, p, f, c⟩ := G.re1; ⟨a.up u, u _ _ b, p, f, u _ _ c⟩
  re2 := let ⟨a, b, p, f, c⟩ := G.re2; ⟨a.up u, u _ _ b, p, f, u _ _ c⟩
  ex := let ⟨a, kvs, ep, b, c, r1, r2, o, es, e1, r⟩ := G.ex; ⟨a.up u, kvs, ep, dictAt_up b u, mapOf_up c u, r1, r2, o, es, u _ _ e1, r⟩
  nl := G.nl.keeps u

structure CX (w : World) (A : Around) (M : List Addr) (s : Shared) : Prop where
  hh : A.handled = none
  dp : A.depth < recursionLimit
  un : A.units + 64 < cLine
  live : ∀ a ∈ M, 106 < a ∧ ∃ o, s.heap.get? a = some o
  base : ∃ g0 : Heap, (∀ b o, g0.get? b = some o → b ≤ 106) ∧ Up g0 s.heap ∧ GL w g0
  tk : 630 ≤ s.toks
theorem CX.up {w : World} {A : Around} {M : List Addr} {s s' : Shared} (c : CX w A M s) (u : Up s.heap s'.heap) (t : s.toks ≤ s'.toks) : CX w A M s' := ⟨c.hh, c.dp, c.un, fun a ha => let ⟨h1, o, e⟩ := c.live a ha; ⟨h1, o, u _ _ e⟩, let ⟨g0, a, b, d⟩ := c.base; ⟨g0, a, b.trans u, d⟩, Nat.le_trans c.tk t⟩
theorem CX.G {w : World} {A : Around} {M : List Addr} {s : Shared} (c : CX w A M s) : GL w s.heap := let ⟨_, _, b, d⟩ := c.base; d.up b
theorem CX.lt {w : World} {A : Around} {M : List Addr} {s : Shared} (c : CX w A M s) {a : Addr} (ha : a ∈ M) : a < s.heap.objs.size := let ⟨_, o, e⟩ := c.live a ha; Heap.lt_size e
theorem CX.new {w : World} {A : Around} {M : List Addr} {s : Shared} (c : CX w A M s) {a : Addr} (ha : s.heap.objs.size ≤ a) : a ∉ M := fun q => Nat.lt_irrefl _ (Nat.lt_of_lt_of_le (c.lt q) ha)
theorem CX.old {w : World} {A : Around} {M : List Addr} {s : Shared} (c : CX w A M s) {a : Addr} (ha : a ≤ 106) : a ∉ M := fun q => Nat.lt_irrefl _ (Nat.lt_of_lt_of_le (c.live a q).1 ha)
theorem CX.weak {w : World} {A : Around} {M M' : List Addr} {s : Shared} (c : CX w A M s) (h : ∀ a ∈ M', a ∈ M) : CX w A M' s := ⟨c.hh, c.dp, c.un, fun a ha => c.live a (h a ha), c.base, c.tk⟩

/-- the tree runs and the heap only grows -/
noncomputable def TR (w : World) (A : Around) (M : List Addr) (g : Heap) {α : Type} (t : Sem α) (Q : Heap → α → Prop) : Prop :=
  ∀ s, Up g s.heap → CX w A M s → wpAny (model pg w) A t (fun v s' => Keeps s s' ∧ Q s'.heap v) (fun _ _ => False) s

section
variable {w : World} {A : Around} {M : List Addr} {g : Heap} {α β : Type}
theorem TR.use {t : Sem α} {P : Heap → α → Prop} {Q : α → Shared → Prop} {E : Value → Shared → Prop} {s : Shared} (h : TR w A M g t P) (u : Up g s.heap) (c : CX w A M s)
    (k : ∀ v s', Keeps s s' → CX w A M s' → P s'.heap v → Q v s') : wpAny (model pg w) A t Q E s :=
  wpAny_mono (wpAny_toks (h s u c)) (fun v s' x => k v s' x.2.1 (c.up (Keeps.upto x.2.1) x.1) x.2.2) fun _ _ x => x.2.elim
theorem TR.up {t : Sem α} {P : Heap → α → Prop} {g' : Heap} (h : TR w A M g t P) (u : Up g g') : TR w A M g' t P := fun s v c => h s (u.trans v) c
theorem TR.mono {t : Sem α} {P P' : Heap → α → Prop} (h : TR w A M g t P) (k : ∀ s v, Up g s.heap → CX w A M s → P s.heap v → P' s.heap v) : TR w A M g t P' := fun s u c =>
  h.use u c fun v s' ks c' x => ⟨ks, k s' v (u.trans (Keeps.upto ks)) c' x⟩
theorem TR.bind {t : Sem α} {f : α → Sem β} {P : Heap → α → Prop} {P' : Heap → β → Prop} (h : TR w A M g t P) (k : ∀ g' v, Up g g' → P g' v → TR w A M g' (f v) P') : TR w A M g (t >>= f) P' := fun s u c =>
  wpAny_bind (h.use u c fun v s' ks c' p => wpAny_mono (k s'.heap v (u.trans (Keeps.upto ks)) p s' (Up.refl _) c') (fun _ _ x => ⟨Keeps.tr ks x.1, x.2⟩) fun _ _ x => x)
theorem TR.two {l r t : Sem Value} {P1 P2 P : Heap → Value → Prop} {f : Value → Value → Sem Value} (h1 : TR w A M g l P1) (h2 : TR w A M g r P2)
    (m1 : ∀ h h' v, Up h h' → P1 h v → P1 h' v)
    (hf : ∀ g' a b, Up g g' → P1 g' a → P2 g' b → TR w A M g' (f a b) P)
    (ht : ∀ s Q E, wpAny (model pg w) A l (fun a s₁ => wpAny (model pg w) A r (fun b s₂ => wpAny (model pg w) A (f a b) Q E s₂) E s₁) E s → wpAny (model pg w) A t Q E s) :
    TR w A M g t P := fun s u c => ht s _ _ <| h1.use u c fun a s1 k1 c1 p1 => (h2.up (u.trans (Keeps.upto k1))).use (Up.refl _) c1 fun b s2 k2 c2 p2 =>
      wpAny_mono (hf s2.heap a b ((u.trans (Keeps.upto k1)).trans (Keeps.upto k2)) (m1 _ _ _ (Keeps.upto k2) p1) p2 s2 (Up.refl _) c2) (fun _ _ x => ⟨(Keeps.tr (Keeps.tr k1 k2) x.1), x.2⟩) fun _ _ x => x
end

/-- the bindings of an environment -/
abbrev Sg := List (Str × D)
noncomputable def VarAt (g : Heap) (env : Env) (x : Str) (v : Value) : Prop :=
  (env.kindOf x = some .local ∧ ∃ m, g.Ns env.locals m ∧ m x = some v) ∨ ((env.kindOf x = some .cell ∨ env.kindOf x = some .free) ∧ ∃ c, env.cells.lookup x = some c ∧ g.IsCell c (some v))
theorem VarAt.up {g g' : Heap} {env : Env} {x : Str} {v : Value} (h : VarAt g env x v) (u : Up g g') : VarAt g' env x v := by
  rcases h with ⟨k, m, n, e⟩ | ⟨k, c, e, i⟩
  · exact .inl ⟨k, m, n.keeps u, e⟩
  · exact .inr ⟨k, c, e, i.keeps u⟩
structure EnvOk (env : Env) (ns : List (Str × NameKind)) : Prop where
  n : env.scope.names = ns
  k : env.scope.kind = .function
  g : env.globals = mainGlobals
  b : env.builtins = builtinsNs
noncomputable def VarsOk (w : World) (M : List Addr) (g : Heap) (env : Env) (σ : Sg) : Prop := ∀ x d, σ.lookup x = some d → ∃ v, VarAt g env x v ∧ IsD pg w M g d v
theorem VarsOk.up {w : World} {M : List Addr} {g g' : Heap} {env : Env} {σ : Sg} (h : VarsOk w M g env σ) (u : Up g g') : VarsOk w M g' env σ := fun x d e => let ⟨v, a, b⟩ := h x d e; ⟨v, a.up u, b.up u⟩

/-- in an environment of these names, so bound, the expression is d -/
structure EE (w : World) (A : Around) (ns : List (Str × NameKind)) (σ : Sg) (e : Expr) (d : D) : Prop where
  run : ∀ env M g, EnvOk env ns → VarsOk w M g env σ → TR w A M g (eval e env) fun h v => IsD pg w M h d v
/-- a test -/
structure TT (w : World) (A : Around) (ns : List (Str × NameKind)) (σ : Sg) (e : Expr) (b : Bool) : Prop where
  run : ∀ env M g, EnvOk env ns → VarsOk w M g env σ → TR w A M g (isTrue e env (eval e env)) fun _ c => c = b
/-- a global's value -/
structure EG (w : World) (A : Around) (ns : List (Str × NameKind)) (e : Expr) (v : Value) : Prop where
  run : ∀ env M g, EnvOk env ns → TR w A M g (eval e env) fun _ u => u = v
inductive EEs (w : World) (A : Around) (ns : List (Str × NameKind)) (σ : Sg) : List Expr → List D → Prop
  | nil : EEs w A ns σ [] []
  | cons {e es d ds} : EE w A ns σ e d → EEs w A ns σ es ds → EEs w A ns σ (e :: es) (d :: ds)
noncomputable def AllD (w : World) (M : List Addr) (h : Heap) : List D → List Value → Prop
  | [], vs => vs = []
  | d :: ds, vs => ∃ v r, vs = v :: r ∧ IsD pg w M h d v ∧ AllD w M h ds r
theorem AllD.up {w : World} {M : List Addr} {h h' : Heap} (u : Up h h') : ∀ {ds : List D} {vs : List Value}, AllD w M h ds vs → AllD w M h' ds vs
  | [], _, x => x
  | _ :: _, _, ⟨v, r, e, a, b⟩ => ⟨v, r, e, a.up u, AllD.up u b⟩
theorem AllD.py {w : World} {M : List Addr} {h : Heap} : ∀ {ds : List PyData} {vs : List Value}, AllD w M h (ds.map .d) vs → IsAll M h ds vs
  | [], _, x => by obtain rfl := (show _ = _ from x); exact isAll_nil
  | _ :: _, _, ⟨v, r, e, a, b⟩ => by subst e; exact isAll_cons a (AllD.py b)
structure CALL (w : World) (A : Around) (f : Value) (ds : List D) (d : D) : Prop where
  run : ∀ M g vs, AllD w M g ds vs → TR w A M g (call f vs []) fun h v => IsD pg w M h d v
/-- a def, a built-in function or a type -/
noncomputable def Callee (w : World) (f : Value) : Prop := ∀ h, GL w h → (∃ a o fd, f = .ref a ∧ h.get? a = some o ∧ o.data = .func fd) ∨ (∃ id, f = .builtin id) ∨ ∃ T, f = .type T

section
variable {w : World} {A : Around} {ns : List (Str × NameKind)} {σ : Sg} {M : List Addr} {g : Heap} {env : Env}
theorem isD_int {M : List Addr} {h : Heap} {i : Int} {t : Tok} : IsD pg w M h (I i) (.int i t) := @is_int M h i t
theorem isD_str {M : List Addr} {h : Heap} {i : Str} {t : Tok} : IsD pg w M h (S i) (.str i t) := @is_str M h i t
theorem isD_bool {M : List Addr} {h : Heap} {i : Bool} : IsD pg w M h (B i) (.bool i) := @is_bool M h i
theorem unI {M : List Addr} {h : Heap} {i : Int} {v : Value} (x : IsD pg w M h (I i) v) : ∃ t, v = .int i t := @Is.int M h i v x
theorem unS {M : List Addr} {h : Heap} {i : Str} {v : Value} (x : IsD pg w M h (S i) v) : ∃ t, v = .str i t := @Is.str M h i v x
theorem unB {M : List Addr} {h : Heap} {i : Bool} {v : Value} (x : IsD pg w M h (B i) v) : v = .bool i := @Is.bool M h i v x
theorem unL {M : List Addr} {h : Heap} {ds : List PyData} {v : Value} (x : IsD pg w M h (L ds) v) : ∃ a vs, v = .ref a ∧ a ∉ M ∧ h.IsList a vs ∧ IsAll M h ds vs.toList := @Is.list M h ds v x
theorem unT {M : List Addr} {h : Heap} {ds : List PyData} {v : Value} (x : IsD pg w M h (T ds) v) : ∃ a vs, v = .ref a ∧ a ∉ M ∧ h.IsTuple a vs ∧ IsAll M h ds vs.toList := @Is.tuple M h ds v x
theorem toL {M : List Addr} {h : Heap} {ds : List PyData} {a : Addr} {vs : Array Value} (ha : a ∉ M) (x : h.IsList a vs) (y : IsAll M h ds vs.toList) : IsD pg w M h (L ds) (.ref a) := is_list ha x y
theorem toT {M : List Addr} {h : Heap} {ds : List PyData} {a : Addr} {vs : Array Value} (ha : a ∉ M) (x : h.IsTuple a vs) (y : IsAll M h ds vs.toList) : IsD pg w M h (T ds) (.ref a) := is_tuple ha x y

theorem ee_int {i : Int} {k : Nat} {pos : Pos} : EE w A ns σ (.Constant (.int i) k pos) (I i) := .mk <| fun _ _ _ _ _ s _ _ => wpAny_Constant_int ⟨Keeps.tok (Keeps.rfl s) _, isD_int⟩
theorem ee_str {x : Str} {k : Nat} {pos : Pos} : EE w A ns σ (.Constant (.str x) k pos) (S x) := .mk <| fun _ _ _ _ _ s _ _ => wpAny_Constant_str ⟨Keeps.tok (Keeps.rfl s) _, isD_str⟩
theorem ee_bool {b : Bool} {k : Nat} {pos : Pos} : EE w A ns σ (.Constant (.bool b) k pos) (B b) := .mk <| fun _ _ _ _ _ s _ _ => wpAny_Constant_bool ⟨Keeps.rfl s, isD_bool⟩
theorem var_at {x : Str} {pos : Pos} {v : Value} (hv : VarAt g env x v) (hk : env.scope.kind = .function) (hd : (x == ("__debug__" : Str)) = false) (hc : (x == ("__classdict__" : Str)) = false) :
    TR w A M g (eval (.Name x pos) env) fun _ u => u = v := fun s u _ => by
  rcases hv.up u with ⟨k, m, n, e⟩ | ⟨k | k, c, e, i⟩
  · exact wpAny_Name (wpAny_loadName_local hk k n e ⟨Keeps.rfl s, rfl⟩) hd
  · exact wpAny_Name (wpAny_loadName_cell hk k e i ⟨Keeps.rfl s, rfl⟩) hd
  · exact wpAny_Name (wpAny_loadName_free hk k e i ⟨Keeps.rfl s, rfl⟩ hc) hd
theorem ee_name {x : Str} {pos : Pos} {d : D} (h : σ.lookup x = some d) (hd : (x == ("__debug__" : Str)) = false := by decide) (hc : (x == ("__classdict__" : Str)) = false := by decide) : EE w A ns σ (.Name x pos) d := .mk <|
  fun env M g he hv => by
    obtain ⟨v, a, b⟩ := hv x d h
    exact (var_at a he.k hd hc).mono fun s u up _ e => e ▸ b.up up
theorem eg_name {x : Str} {pos : Pos} {v : Value} (hk : ns.lookup x = some .globalImplicit) (h : ∀ h, GL w h → GN h x v) (hd : (x == ("__debug__" : Str)) = false := by decide) : EG w A ns (.Name x pos) v := .mk <|
  fun env M g he s u c => by
    obtain ⟨mg, mb, n1, n2, q⟩ := h _ c.G
    have hk' : env.kindOf x = some .globalImplicit := by unfold Env.kindOf; rw [he.n]; exact hk
    rcases q with q | ⟨q1, q2⟩
    · exact Calls.Name_function_global he.k hk' (PySem.Calls.loadGlobal_global (env := env) (by rw [he.g]; exact n1) q ⟨Keeps.rfl s, rfl⟩) hd
    · exact Calls.Name_function_global he.k hk' (PySem.Calls.loadGlobal_builtin (env := env) (by rw [he.g]; exact n1) q1 (by rw [he.b]; exact n2) q2 ⟨Keeps.rfl s, rfl⟩) hd
theorem ee_glob {x : Str} {pos : Pos} {d : D} (hk : ns.lookup x = some .globalImplicit) (h : ∀ h M, GL w h → (∀ a ∈ M, 106 < a) → ∃ v, GN h x v ∧ IsD pg w M h d v) (hd : (x == ("__debug__" : Str)) = false := by decide) : EE w A ns σ (.Name x pos) d := .mk <|
  fun env M g he _ s u c => by
    obtain ⟨v, ⟨mg, mb, n1, n2, q⟩, hi⟩ := h _ M c.G fun a ha => (c.live a ha).1
    have hk' : env.kindOf x = some .globalImplicit := by unfold Env.kindOf; rw [he.n]; exact hk
    rcases q with q | ⟨q1, q2⟩
    · exact Calls.Name_function_global he.k hk' (PySem.Calls.loadGlobal_global (env := env) (by rw [he.g]; exact n1) q ⟨Keeps.rfl s, hi⟩) hd
    · exact Calls.Name_function_global he.k hk' (PySem.Calls.loadGlobal_builtin (env := env) (by rw [he.g]; exact n1) q1 (by rw [he.b]; exact n2) q2 ⟨Keeps.rfl s, hi⟩) hd

theorem isD_mono (d : D) : ∀ (h h' : Heap) (v : Value), Up h h' → IsD pg w M h d v → IsD pg w M h' d v := fun _ _ _ u x => x.up u
/-- a binary operation on data -/
noncomputable def OP (w : World) (A : Around) (op : Operator) (c d r : D) : Prop := ∀ M g x y, IsD pg w M g c x → IsD pg w M g d y → TR w A M g (binaryOp op x y) fun h v => IsD pg w M h r v
theorem ee_bin {op : Operator} {a b : Expr} {pos : Pos} {c d r : D} (ha : EE w A ns σ a c) (hb : EE w A ns σ b d) (h : OP w A op c d r) : EE w A ns σ (.BinOp a op b pos) r := .mk <|
  fun env M g he hv => TR.two (ha.run env M g he hv) (hb.run env M g he hv) (isD_mono _) (f := binaryOp op) (fun g' x y _ hx hy => h M g' x y hx hy) (fun _ _ _ h => wpAny_BinOp h)
theorem op_add (i j : Int) : OP w A .Add (I i) (I j) (I (i + j)) := fun M g x y hx hy => by
  obtain ⟨t, rfl⟩ := unI hx; obtain ⟨u, rfl⟩ := unI hy
  exact fun s _ _ => add_int ⟨Keeps.tok (Keeps.rfl s) _, isD_int⟩
theorem op_sub (i j : Int) : OP w A .Sub (I i) (I j) (I (i - j)) := fun M g x y hx hy => by
  obtain ⟨t, rfl⟩ := unI hx; obtain ⟨u, rfl⟩ := unI hy
  exact fun s _ _ => sub_int ⟨Keeps.tok (Keeps.rfl s) _, isD_int⟩
theorem op_mod (i j : Int) (hj : j ≠ 0) : OP w A .Mod (I i) (I j) (I (i.fmod j)) := fun M g x y hx hy => by
  obtain ⟨t, rfl⟩ := unI hx; obtain ⟨u, rfl⟩ := unI hy
  exact fun s _ _ => mod_int' hj ⟨Keeps.tok (Keeps.rfl s) _, isD_int⟩
theorem op_fdiv (i j : Int) (hj : j ≠ 0) (hp : Builtin.divisionGoesByPylong i j = false) : OP w A .FloorDiv (I i) (I j) (I (i.fdiv j)) := fun M g x y hx hy => by
  obtain ⟨t, rfl⟩ := unI hx; obtain ⟨u, rfl⟩ := unI hy
  exact fun s _ _ => floordiv_int hj ⟨Keeps.tok (Keeps.rfl s) _, isD_int⟩ (Or.inl hp)
theorem op_pow (i j : Int) (h0 : 0 ≤ j) (h1 : j ≤ 1000000) (h2 : i.natAbs < 2 ^ 64) : OP w A .Pow (I i) (I j) (I (i ^ j.toNat)) := fun M g x y hx hy => by
  obtain ⟨t, rfl⟩ := unI hx; obtain ⟨u, rfl⟩ := unI hy
  exact fun s _ _ => pow_int_small h0 h1 h2 ⟨Keeps.tok (Keeps.rfl s) _, isD_int⟩
theorem op_cat (i j : Str) (hz : i.length + j.length ≤ sizeLine) : OP w A .Add (S i) (S j) (S (i ++ j)) := fun M g x y hx hy => by
  obtain ⟨t, rfl⟩ := unS hx; obtain ⟨u, rfl⟩ := unS hy
  exact fun s _ _ => PyProof.Rows.add_str (fun t' k => ⟨Keeps.tok (Keeps.rfl s) _, isD_str⟩) hz

/-- a comparison of data -/
noncomputable def CMP (w : World) (A : Around) (op : CmpOp) (c d : D) (b : Bool) : Prop := ∀ M g x y, IsD pg w M g c x → IsD pg w M g d y → TR w A M g (compareOp op x y) fun _ v => v = .bool b
theorem ee_cmp {op : CmpOp} {l r : Expr} {pos : Pos} {c d : D} {b : Bool} (hl : EE w A ns σ l c) (hr : EE w A ns σ r d) (h : CMP w A op c d b)
    (hm : behindInMarks op r = false := by with_unfolding_all rfl) : EE w A ns σ (.Compare l [op] [r] pos) (B b) := .mk <|
  fun env M g he hv => TR.two (hl.run env M g he hv) (hr.run env M g he hv) (isD_mono _) (f := compareOp op) (fun g' x y _ hx hy => (h M g' x y hx hy).mono fun _ _ _ _ e => e ▸ isD_bool) (fun _ _ _ h => wpAny_Compare1 h hm)
theorem tt_cmp {op : CmpOp} {l r : Expr} {pos : Pos} {c d : D} {b : Bool} (hl : EE w A ns σ l c) (hr : EE w A ns σ r d) (h : CMP w A op c d b)
    (hm : behindInMarks op r = false := by with_unfolding_all rfl) : TT w A ns σ (.Compare l [op] [r] pos) b := .mk <| fun env M g he hv s u cx =>
  wpAny_isTrue_Compare1 ((hl.run env M g he hv).use u cx fun a s1 k1 c1 p1 => ((hr.run env M g he hv).up (u.trans (Keeps.upto k1))).use (Up.refl _) c1 fun b' s2 k2 c2 p2 =>
    (h M s2.heap a b' (p1.up (Keeps.upto k2)) p2).use (Up.refl _) c2 fun v s3 k3 c3 p3 => by
      rw [p3]; exact wpAny_truthy_bool ⟨Keeps.tr (Keeps.tr k1 k2) k3, rfl⟩) hm
theorem cmp_lt (i j : Int) : CMP w A .Lt (I i) (I j) (decide (i < j)) := fun M g x y hx hy => by
  obtain ⟨t, rfl⟩ := unI hx; obtain ⟨u, rfl⟩ := unI hy
  exact fun s _ _ => PyProof.Rows.lt_int ⟨Keeps.rfl s, rfl⟩
theorem cmp_le (i j : Int) : CMP w A .LtE (I i) (I j) (decide (i ≤ j)) := fun M g x y hx hy => by
  obtain ⟨t, rfl⟩ := unI hx; obtain ⟨u, rfl⟩ := unI hy
  exact fun s _ _ => PyProof.Rows.le_int ⟨Keeps.rfl s, rfl⟩
theorem cmp_gt (i j : Int) : CMP w A .Gt (I i) (I j) (decide (j < i)) := fun M g x y hx hy => by
  obtain ⟨t, rfl⟩ := unI hx; obtain ⟨u, rfl⟩ := unI hy
  exact fun s _ _ => PyProof.Rows.gt_int ⟨Keeps.rfl s, rfl⟩
theorem cmp_ge (i j : Int) : CMP w A .GtE (I i) (I j) (decide (j ≤ i)) := fun M g x y hx hy => by
  obtain ⟨t, rfl⟩ := unI hx; obtain ⟨u, rfl⟩ := unI hy
  exact fun s _ _ => PyProof.Rows.ge_int ⟨Keeps.rfl s, rfl⟩
theorem cmp_eqi (i j : Int) : CMP w A .Eq (I i) (I j) (i == j) := fun M g x y hx hy => by
  obtain ⟨t, rfl⟩ := unI hx; obtain ⟨u, rfl⟩ := unI hy
  exact fun s _ _ => PyProof.Rows.eq_int ⟨Keeps.rfl s, rfl⟩
theorem cmp_eqs (i j : Str) : CMP w A .Eq (S i) (S j) (i == j) := fun M g x y hx hy => by
  obtain ⟨t, rfl⟩ := unS hx; obtain ⟨u, rfl⟩ := unS hy
  exact fun s _ _ => PyProof.Rows.eq_str ⟨Keeps.rfl s, rfl⟩
theorem cmp_notin (i j : Str) : CMP w A .NotIn (S i) (S j) (Builtin.Str.occurrences j i 0 j.length 1).isEmpty := fun M g x y hx hy => by
  obtain ⟨t, rfl⟩ := unS hx; obtain ⟨u, rfl⟩ := unS hy
  exact fun s _ _ => PyProof.Rows.notIn_str ⟨Keeps.rfl s, by rw [Bool.not_not]⟩
theorem cmp_isnot (i j : Bool) : CMP w A .IsNot (B i) (B j) (i != j) := fun M g x y hx hy => by
  rw [unB hx, unB hy]
  exact fun s _ _ => wpAny_isNot_plain rfl ⟨Keeps.rfl s, by cases i <;> cases j <;> rfl⟩
theorem cmp_eqd (c d : PyData) (hc : SeqAt.shaped c = true) (hd : SeqAt.shaped d = true) : CMP w A .Eq (.d c) (.d d) (PyData.eqv c d) := fun M g x y hx hy s u cx => by
  obtain ⟨as, r⟩ := @Is.reads M _ c x hx; obtain ⟨bs, q⟩ := @Is.reads M _ d y hy
  exact eq_dataH (Reads.keeps u r) (Reads.keeps u q) hc hd cx.un ⟨Keeps.rfl s, rfl⟩
theorem cmp_ned (c d : PyData) (hc : SeqAt.shaped c = true) (hd : SeqAt.shaped d = true) : CMP w A .NotEq (.d c) (.d d) (!PyData.eqv c d) := fun M g x y hx hy s u cx => by
  obtain ⟨as, r⟩ := @Is.reads M _ c x hx; obtain ⟨bs, q⟩ := @Is.reads M _ d y hy
  exact ne_dataH (Reads.keeps u r) (Reads.keeps u q) hc hd cx.un ⟨Keeps.rfl s, rfl⟩

theorem tt_bool {e : Expr} {b : Bool} (h : EE w A ns σ e (B b)) (he : ∀ env whole, isTrue e env whole = (do let v ← whole; standAt e.pos; holding [v] (truthy v)) := by intro _ _; rfl) : TT w A ns σ e b := .mk <| fun env M g ho hv s u c =>
  wpAny_isTrue_value ((h.run env M g ho hv).use u c fun v s1 k1 c1 p1 => by rw [unB p1]; exact wpAny_truthy_bool ⟨k1, rfl⟩) (he _ _)
theorem tt_and2 {x y : Expr} {pos : Pos} {a b : Bool} (hx : TT w A ns σ x a) (hy : a = true → TT w A ns σ y b) : TT w A ns σ (.BoolOp .And [x, y] pos) (a && b) := .mk <| fun env M g he hv s u cx =>
  wpAny_isTrue_BoolOp (wpAny_allTrue_And_cons ((hx.run env M g he hv).use u cx fun c s1 k1 c1 p1 => by
    subst p1
    cases c with
    | false => simp only [Bool.false_eq_true, if_false]; exact ⟨k1, by simp⟩
    | true =>
      simp only [if_true]
      refine wpAny_allTrue_And_cons ((((hy rfl).run env M g he hv).up (u.trans (Keeps.upto k1))).use (Up.refl _) c1 fun c s2 k2 c2 p2 => ?_)
      subst p2
      cases c with
      | false => simp only [Bool.false_eq_true, if_false]; exact ⟨Keeps.tr k1 k2, rfl⟩
      | true => simp only [if_true]; exact wpAny_allTrue_And_nil ⟨Keeps.tr k1 k2, rfl⟩))
theorem ee_ifexp {t b o : Expr} {pos : Pos} {c : Bool} {d : D} (ht : TT w A ns σ t c) (hb : c = true → EE w A ns σ b d) (ho : c = false → EE w A ns σ o d) :
    EE w A ns σ (.IfExp t b o pos) d := .mk <| fun env M g he hv s u cx =>
  wpAny_IfExp ((ht.run env M g he hv).use u cx fun c' s1 k1 c1 p1 => by
    subst p1
    cases c' with
    | false =>
      simp only [Bool.false_eq_true, if_false]
      exact (((ho rfl).run env M g he hv).up (u.trans (Keeps.upto k1))).use (Up.refl _) c1 fun v s2 k2 c2 p2 => ⟨Keeps.tr k1 k2, p2⟩
    | true =>
      simp only [if_true]
      exact (((hb rfl).run env M g he hv).up (u.trans (Keeps.upto k1))).use (Up.refl _) c1 fun v s2 k2 c2 p2 => ⟨Keeps.tr k1 k2, p2⟩)

theorem EEs.run {es : List Expr} {ds : List D} (h : EEs w A ns σ es ds) (he : EnvOk env ns) (hv : VarsOk w M g env σ) : TR w A M g (spliced (es.map fun e => (false, eval e env))) fun h vs => AllD w M h ds vs := by
  induction h with
  | nil => exact fun s _ _ => Calls.spliced_nil ⟨Keeps.rfl s, rfl⟩
  | cons h hs ih => exact fun s u c => Calls.spliced_cons ((h.run env M g he hv).use u c fun v s1 k1 c1 p1 => (ih.up (u.trans (Keeps.upto k1))).use (Up.refl _) c1 fun vs s2 k2 c2 p2 =>
      ⟨Keeps.tr k1 k2, v, vs, rfl, p1.up (Keeps.upto k2), p2⟩)
theorem backTo_plain {es : List Expr} {pos : Pos} : backTo pos (es.map fun e => (false, eval e env)) = es.map fun e => (false, eval e env) := by
  simp [backTo]
theorem ee_list {es : List Expr} {ds : List PyData} {pos : Pos} (h : EEs w A ns σ es (ds.map .d)) (hz : ds.length ≤ sizeLine := by first | decide | (simp only [List.length_cons, List.length_nil]; decide)) (hs : ∀ env, starEach es env = es.map fun e => (false, eval e env) := by intro _; rfl) : EE w A ns σ (.List es pos) (L ds) := .mk <| fun env M g he hv s u c =>
  wpAny_List (by
    rw [hs, backTo_plain]
    exact (h.run he hv).use u c fun vs s1 k1 c1 p1 => ⟨by rw [p1.py.length]; exact hz, Keeps.push k1 _, toL (c1.new (Nat.le_refl _)) ⟨_, Heap.get?_push_size _ rfl, rfl, _, rfl⟩ (by simpa using p1.py.up (Up.push _ _))⟩)
theorem ee_tuple {es : List Expr} {ds : List PyData} {k : Nat} {pos : Pos} (h : EEs w A ns σ es (ds.map .d)) (hz : ds.length ≤ sizeLine := by first | decide | (simp only [List.length_cons, List.length_nil]; decide)) (hs : ∀ env, starEach es env = es.map fun e => (false, eval e env) := by intro _; rfl) : EE w A ns σ (.Tuple es k pos) (T ds) := .mk <| fun env M g he hv s u c =>
  wpAny_Tuple (by
    rw [hs, backTo_plain]
    exact (h.run he hv).use u c fun vs s1 k1 c1 p1 => ⟨by rw [p1.py.length]; exact hz, Keeps.push k1 _, toT (c1.new (Nat.le_refl _)) ⟨_, Heap.get?_push_size _ rfl, rfl, _, rfl⟩ (by simpa using p1.py.up (Up.push _ _))⟩)

/-- an item -/
noncomputable def ITEM (w : World) (A : Around) (v i : Expr) (c d r : D) : Prop := ∀ M g x y, IsD pg w M g c x → IsD pg w M g d y → TR w A M g (subscriptTail v i x y) fun h u => IsD pg w M h r u
theorem ee_sub {v i : Expr} {pos : Pos} {c d r : D} (hv : EE w A ns σ v c) (hi : EE w A ns σ i d) (h : ITEM w A v i c d r) : EE w A ns σ (.Subscript v i pos) r := .mk <|
  fun env M g he ho => TR.two (hv.run env M g he ho) (hi.run env M g he ho) (isD_mono _) (f := subscriptTail v i) (fun g' x y _ hx hy => h M g' x y hx hy) (fun _ _ _ h => Subscript_ h)
theorem item_list {v i : Expr} {ds : List PyData} {k : Int} {d : PyData} (h0 : 0 ≤ k) (h1 : k < 2 ^ 63) (hd : ds[k.toNat]? = some d)
    (hs : ∀ o j, subscripted i false o j = operate [o, j] (getItem o j) := by intro _ _; with_unfolding_all rfl) : ITEM w A v i (L ds) (I k) (.d d) := fun M g x y hx hy s u c => by
  obtain ⟨a, vs, rfl, _, hl, hall⟩ := unL (IsD.up hx u)
  obtain ⟨t, rfl⟩ := unI hy
  obtain ⟨r, hr, hir⟩ := hall.get hd
  exact tail_any hl.typeIs slot_list_getitem.lookup (wpAny_getItem_list hl h0 h1 (by simpa using hr) ⟨Keeps.rfl s, hir⟩) (hs _ _)
theorem item_list_neg {v i : Expr} {ds : List PyData} {k : Int} {d : PyData} (h0 : k < 0) (h1 : -(ds.length : Int) ≤ k) (h2 : -(2 ^ 63) ≤ k) (hd : ds[(k + ds.length).toNat]? = some d)
    (hs : ∀ o j, subscripted i false o j = operate [o, j] (getItem o j) := by intro _ _; with_unfolding_all rfl) : ITEM w A v i (L ds) (I k) (.d d) := fun M g x y hx hy s u c => by
  obtain ⟨a, vs, rfl, _, hl, hall⟩ := unL (IsD.up hx u)
  obtain ⟨t, rfl⟩ := unI hy
  obtain ⟨r, hr, hir⟩ := hall.get hd
  have hz : vs.size = ds.length := by rw [← hall.length]; simp
  exact tail_any hl.typeIs slot_list_getitem.lookup (wpAny_getItem_list_neg hl h0 (by rw [hz]; exact h1) h2 (by rw [hz]; simpa using hr) ⟨Keeps.rfl s, hir⟩) (hs _ _)
theorem item_tuple {v i : Expr} {ds : List PyData} {k : Int} {d : PyData} (h0 : 0 ≤ k) (h1 : k < 2 ^ 63) (hd : ds[k.toNat]? = some d)
    (hs : ∀ o j, subscripted i false o j = operate [o, j] (getItem o j) := by intro _ _; with_unfolding_all rfl) : ITEM w A v i (T ds) (I k) (.d d) := fun M g x y hx hy s u c => by
  obtain ⟨a, vs, rfl, _, ⟨o, ho, hc, n, hdt⟩, hall⟩ := unT (IsD.up hx u)
  obtain ⟨t, rfl⟩ := unI hy
  obtain ⟨r, hr, hir⟩ := hall.get hd
  have hlt : k.toNat < vs.size := by have := (List.getElem?_eq_some_iff.mp hr).1; simpa using this
  refine tail_any (T := "tuple") ⟨o, ho, hc⟩ slot_tuple_getitem.lookup (PyProof.Rows.getItem_tuple ⟨o, ho, hc, n, hdt⟩ (by omega) h1 (j := k.toNat) ?_ (by simpa using hr) ⟨Keeps.rfl s, hir⟩) (hs _ _)
  simp [seqIndex?]; omega
theorem item_imap {v i : Expr} {f : Int → Option Str} {k : Int} {x : Str} (hf : f k = some x)
    (hs : ∀ o j, subscripted i false o j = operate [o, j] (getItem o j) := by intro _ _; with_unfolding_all rfl) : ITEM w A v i (.imap f) (I k) (S x) := fun M g x y hx hy s u c => by
  obtain ⟨a, F, rfl, ha, hsy, hm, hv⟩ := IsD.up (prog := pg) (w := w) (d := .imap f) hx u
  obtain ⟨t, rfl⟩ := unI hy
  have := hv k
  rw [hf] at this
  obtain ⟨t', ht⟩ := this
  exact tail_any hm.typeIs slot_dict_getitem.lookup (wpAny_getItem_of (intKind_is pg w k t) hm ht ⟨Keeps.tok (Keeps.rfl s) _, isD_str⟩) (hs _ _)
theorem item_smap {v i : Expr} {f : Str → Option PyData} {k : Str} {d : PyData} (hf : f k = some d)
    (hs : ∀ o j, subscripted i false o j = operate [o, j] (getItem o j) := by intro _ _; with_unfolding_all rfl) : ITEM w A v i (.smap f) (S k) (.d d) := fun M g x y hx hy s u c => by
  obtain ⟨a, F, rfl, ha, hsy, hm, hv⟩ := IsD.up (prog := pg) (w := w) (d := .smap f) hx u
  obtain ⟨t, rfl⟩ := unS hy
  have := hv k
  rw [hf] at this
  obtain ⟨t', ht, hi⟩ := this
  exact tail_any hm.typeIs slot_dict_getitem.lookup (wpAny_getItem_of (strKind_is pg w k t) hm ht ⟨Keeps.tok (Keeps.rfl s) _, hi⟩) (hs _ _)

-- calls
theorem callWith_any {f : Value} {pos : Pos} {trees : List (Bool × Sem Value)} {Q : Value → Shared → Prop} {E : Value → Shared → Prop} {s : Shared} (hf : Callee w f) (hst : trees.any (·.1) = false)
    (h : wpAny (model pg w) A (evalArgs f true trees []) (fun a s₁ => Up s.heap s₁.heap ∧ wpAny (model pg w) A (call f a.pos a.kw) Q E s₁) E s) (hG : GL w s.heap) :
    wpAny (model pg w) A (callWith pos f [] trees []) Q E s := by
  rcases hf _ hG with ⟨a, o, fd, rfl, ho, hd⟩ | ⟨id, rfl⟩ | ⟨T, rfl⟩
  · refine Calls.callWith_function (o := o) (fd := fd) (wpAny_mono h (fun x s₁ h₁ => ⟨⟨h₁.1 _ _ ho, hd⟩, by simpa using h₁.2⟩) fun _ _ e => e)
  · exact Calls.callWith_builtin hst (wpAny_mono h (fun x s₁ h₁ => by simpa using h₁.2) fun _ _ e => e)
  · exact PySem.callWith_type hst (wpAny_mono h (fun x s₁ h₁ => by simpa using h₁.2) fun _ _ e => e)
end
end Mine
-- F3
namespace Mine
section
variable {w : World} {A : Around} {ns : List (Str × NameKind)} {σ : Sg} {M : List Addr} {g : Heap} {env : Env}

theorem any_plain {es : List Expr} : (es.map fun e => (false, eval e env)).any (·.1) = false := by simp
theorem ee_call {x : Str} {p pos : Pos} {a : Expr} {as : List Expr} {ds : List D} {f : Value} {d : D} (hf : EG w A ns (.Name x p) f) (hc : Callee w f) (ha : EEs w A ns σ (a :: as) ds) (h : CALL w A f ds d)
    (hs : ∀ env, starEach (a :: as) env = (a :: as).map fun e => (false, eval e env) := by intro _; rfl) : EE w A ns σ (.Call (.Name x p) (a :: as) [] pos) d := .mk <| fun env M g he hv s u c =>
  wpAny_Call_NameR ((hf.run env M g he).use u c fun fv s1 k1 c1 p1 => by
    subst p1
    rw [hs, backTo_plain]
    exact callWith_any hc any_plain (Calls.evalArgs_plain (((ha.run he hv).up (u.trans (Keeps.upto k1))).use (Up.refl _) c1 fun vs s2 k2 c2 p2 =>
      ⟨Keeps.upto k2, (h.run M _ vs p2).use (Up.refl _) c2 fun v s3 k3 c3 p3 => ⟨Keeps.tr (Keeps.tr k1 k2) k3, p3⟩⟩)) c1.G)

/-- a method of a built-in type -/
noncomputable def METH (w : World) (A : Around) (name : Str) (o : D) (ds : List D) (d : D) : Prop :=
  ∃ T id, PlainAttrs T ∧ Slot T name id ∧ typeOf (.builtin id) = pure (.type "method_descriptor") ∧
    (∀ M (s : Shared) ov, IsD pg w M s.heap o ov → s.TypeIs ov T ∧ ∀ a, ov = .ref a → ∃ ob, s.heap.get? a = some ob ∧ ob.dict = none) ∧
    ∀ M g ov vs, IsD pg w M g o ov → AllD w M g ds vs → TR w A M g (call (.builtin id) (ov :: vs) []) fun h v => IsD pg w M h d v
theorem ee_meth {o a : Expr} {as : List Expr} {name : Str} {apos pos : Pos} {c d : D} {ds : List D} (ho : EE w A ns σ o c) (ha : EEs w A ns σ (a :: as) ds) (h : METH w A name c ds d)
    (hbase : ∀ env, attributeBase o name env (eval o env) = eval o env := by intro _; rfl) (hline : (apos.endLine == pos.line) = true := by decide) (hlen : (a :: as).length < 30 := by decide)
    (hs : ∀ env, starEach (a :: as) env = (a :: as).map fun e => (false, eval e env) := by intro _; rfl) : EE w A ns σ (.Call (.Attribute o name apos) (a :: as) [] pos) d := .mk <| fun env M g he hv s u cx => by
  obtain ⟨T, id, pa, slot, hty, ht, hm⟩ := h
  refine wpAny_Call_method_late (hbase env) ?_ hline (trees := (a :: as).map fun e => (false, eval e env)) (by rw [hs, backTo_plain]) ((ho.run env M g he hv).use u cx fun ov s1 k1 c1 p1 => ?_)
  · rw [hs, backTo_plain]
    simp only [Bool.and_eq_true, List.all_eq_true, decide_eq_true_eq]
    refine ⟨⟨fun x hx => ?_, by simp [backToKw, keywordEach]⟩, by simp at hlen ⊢; omega⟩
    obtain ⟨e, _, rfl⟩ := List.mem_map.mp hx
    rfl
  · have u1 := u.trans (Keeps.upto k1)
    exact ⟨T, id, pa, slot, hty, (ht M s1 ov p1).1, (ht M s1 ov p1).2, Calls.callWith_builtin any_plain (Calls.evalArgs_plain (((ha.run he hv).up u1).use (Up.refl _) c1 fun vs s2 k2 c2 p2 =>
      (hm M s2.heap ov vs (p1.up (Keeps.upto k2)) p2).use (Up.refl _) c2 fun v s3 k3 c3 p3 => ⟨Keeps.tr (Keeps.tr k1 k2) k3, p3⟩))⟩
theorem str_is (x : Str) : ∀ M (s : Shared) ov, IsD pg w M s.heap (S x) ov → s.TypeIs ov "str" ∧ ∀ a, ov = .ref a → ∃ ob, s.heap.get? a = some ob ∧ ob.dict = none := fun M s ov h => by
  obtain ⟨t, rfl⟩ := unS h
  exact ⟨typeIs_str _ _ _, fun a e => nomatch e⟩
theorem all1 {M : List Addr} {h : Heap} {d : D} {vs : List Value} (x : AllD w M h [d] vs) : ∃ v, vs = [v] ∧ IsD pg w M h d v := by
  obtain ⟨v, r, rfl, a, b⟩ := x; obtain rfl : r = [] := b; exact ⟨v, rfl, a⟩
theorem all2 {M : List Addr} {h : Heap} {d e : D} {vs : List Value} (x : AllD w M h [d, e] vs) : ∃ v u, vs = [v, u] ∧ IsD pg w M h d v ∧ IsD pg w M h e u := by
  obtain ⟨v, r, rfl, a, b⟩ := x; obtain ⟨u, rfl, q⟩ := all1 b; exact ⟨v, u, rfl, a, q⟩
theorem all3 {M : List Addr} {h : Heap} {d e f : D} {vs : List Value} (x : AllD w M h [d, e, f] vs) : ∃ v u t, vs = [v, u, t] ∧ IsD pg w M h d v ∧ IsD pg w M h e u ∧ IsD pg w M h f t := by
  obtain ⟨v, r, rfl, a, b⟩ := x; obtain ⟨u, t, rfl, q, c⟩ := all2 b; exact ⟨v, u, t, rfl, a, q, c⟩
theorem meth_startswith (x y : Str) : METH w A "startswith" (S x) [S y] (B (Txt.startswith x y)) :=
  ⟨"str", _, F.plainAttrs_str, F.slot_str_startswith, F.type_str_startswith, str_is x, fun M g ov vs ho ha s u c => by
    obtain ⟨t, rfl⟩ := unS ho
    obtain ⟨v, rfl, hv⟩ := all1 ha
    obtain ⟨t', rfl⟩ := unS hv
    exact SC.startswith ⟨Keeps.rfl s, isD_bool⟩⟩
theorem meth_endswith (x y : Str) : METH w A "endswith" (S x) [S y] (B (Txt.endswith x y)) :=
  ⟨"str", _, F.plainAttrs_str, F.slot_str_endswith, F.type_str_endswith, str_is x, fun M g ov vs ho ha s u c => by
    obtain ⟨t, rfl⟩ := unS ho
    obtain ⟨v, rfl, hv⟩ := all1 ha
    obtain ⟨t', rfl⟩ := unS hv
    exact SC.endswith ⟨Keeps.rfl s, isD_bool⟩⟩
/-- find between two places -/
noncomputable def findAt (x y : Str) (i j : Int) : Int := match Builtin.Str.occurrences x y (fromIndex x.length i) (min (fromIndex x.length j) x.length) 1 with | k :: _ => (k : Int) | [] => -1
theorem gives_find4 (x y : Str) (i j : Int) (t u v q : Tok) : Gives (Builtin.«str.find» ⟨[.str x t, .str y u, .int i v, .int j q], []⟩) (.int (findAt x y i j)) := by
  show Gives (match Builtin.Str.occurrences x y (fromIndex x.length i) (min (fromIndex x.length j) x.length) 1 with | k :: _ => retInt k | [] => (do rule "str.find.not-found"; retInt (-1))) _
  unfold findAt
  cases Builtin.Str.occurrences x y (fromIndex x.length i) (min (fromIndex x.length j) x.length) 1 with
  | nil => exact .rule (.of_eq rfl)
  | cons k _ => exact .of_eq rfl
theorem meth_find (x y : Str) (i j : Int) : METH w A "find" (S x) [S y, I i, I j] (I (findAt x y i j)) :=
  ⟨"str", _, F.plainAttrs_str, F.slot_str_find, F.type_str_find, str_is x, fun M g ov vs ho ha s u c => by
    obtain ⟨t, rfl⟩ := unS ho
    obtain ⟨v, a, b, rfl, hv, h1, h2⟩ := all3 ha
    obtain ⟨t', rfl⟩ := unS hv
    obtain ⟨t1, rfl⟩ := unI h1
    obtain ⟨t2, rfl⟩ := unI h2
    exact call_gives F.slot_str_find (typeIs_str _ _ _) F.entry_str_find (F.args_str_find_4 _ _ _ _) (gives_find4 x y i j _ _ _ _) ⟨Keeps.tok (Keeps.rfl s) _, isD_int⟩⟩
theorem strs_values {M : List Addr} {h : Heap} : ∀ {xs : List Str} {vs : List Value}, IsAll M h (xs.map .str) vs → ∃ l, vs = strValues l ∧ l.map (·.1) = xs
  | [], vs, x => ⟨[], by rw [IsAll.nil x]; rfl, rfl⟩
  | x :: xs, vs, hx => by
    obtain ⟨v, r, rfl, h1, h2⟩ := IsAll.cons hx
    obtain ⟨t, rfl⟩ := h1.str
    obtain ⟨l, rfl, e⟩ := strs_values h2
    exact ⟨(x, t) :: l, rfl, by simp [e]⟩
theorem values_strs {M : List Addr} {h : Heap} : ∀ (l : List (Str × Tok)), IsAll M h ((l.map (·.1)).map .str) (strValues l)
  | [] => isAll_nil
  | (x, t) :: l => isAll_cons is_str (values_strs l)
theorem meth_join (x : Str) (xs : List Str) (hok : JoinOk x xs = true) : METH w A "join" (S x) [L (xs.map .str)] (S (Txt.join x xs)) :=
  ⟨"str", _, F.plainAttrs_str, F.slot_str_join, F.type_str_join, str_is x, fun M g ov vs ho ha s u c => by
    obtain ⟨t, rfl⟩ := unS ho
    obtain ⟨v, rfl, hv⟩ := all1 ha
    obtain ⟨a, us, rfl, _, hl, hr⟩ := unL hv
    obtain ⟨l, e, e2⟩ := strs_values hr
    obtain ⟨o, h1, h2, n, h3⟩ := hl
    exact SC.join (l := l) ⟨o, u _ _ h1, h2, n, by rw [h3, ← e]⟩ e2 hok fun t' k => ⟨Keeps.tok (Keeps.rfl s) _, isD_str⟩⟩
theorem meth_split (x y : Str) (hy : (y.length == 0) = false) (hx : x.length ≤ sizeLine) (hn : (Builtin.Str.partsBetween x (Builtin.Str.occurrences x y 0 x.length (x.length + 1)) y.length).length ≤ sizeLine) :
    METH w A "split" (S x) [S y] (L ((Txt.split x y).map .str)) :=
  ⟨"str", _, F.plainAttrs_str, F.slot_str_split, F.type_str_split, str_is x, fun M g ov vs ho ha s u c => by
    obtain ⟨t, rfl⟩ := unS ho
    obtain ⟨v, rfl, hv⟩ := all1 ha
    obtain ⟨t', rfl⟩ := unS hv
    have one : wpAny (model pg w) A (call (.builtin "str.split") [.str x t, .str y t']) (fun v s' => Keeps s s' ∧ ∃ l, l.map (·.1) = Txt.split x y ∧ v = .ref s.heap.objs.size ∧ s'.heap.IsList s.heap.objs.size (strValues l).toArray) (fun _ _ => False) s := by
      unfold Txt.split
      cases h1 : (decide (x.length < y.length) || decide (Builtin.Str.strKind x < Builtin.Str.strKind y))
      · cases hf : (Builtin.Str.occurrences x y 0 x.length (x.length + 1)).isEmpty
        · refine call_meets F.slot_str_split (typeIs_str _ _ _) F.entry_str_split (F.args_str_split_2 _ _) (meets_str_split_sep x y t t' h1 hy hf hx hn) ?_
          show wants _ _ _ { s with toks := _, heap := s.heap.push { cls := .type "list", data := .seq (strsFrom s.toks (Builtin.Str.partsBetween x (Builtin.Str.occurrences x y 0 x.length (x.length + 1)) y.length)).toArray } }
          rw [strsFrom_eq]
          exact ⟨Keeps.heap (Keeps.rfl s) (Up.push _ _), numbered s.toks _, by rw [numbered_texts]; simp [hf], rfl, ⟨_, Heap.get?_push_size _ rfl, rfl, _, rfl⟩⟩
        · exact call_meets F.slot_str_split (typeIs_str _ _ _) F.entry_str_split (F.args_str_split_2 _ _) (meets_str_split_not_found x y t t' h1 hy hf)
            ⟨Keeps.push (Keeps.rfl s) _, [(x, t)], by simp [hf], rfl, ⟨_, Heap.get?_push_size _ rfl, rfl, _, rfl⟩⟩
      · exact call_meets F.slot_str_split (typeIs_str _ _ _) F.entry_str_split (F.args_str_split_2 _ _) (meets_str_split_cannot_occur x y t t' h1)
          ⟨Keeps.push (Keeps.rfl s) _, [(x, t)], by simp, rfl, ⟨_, Heap.get?_push_size _ rfl, rfl, _, rfl⟩⟩
    exact wpAny_mono one (fun v s' ⟨k, l, e, ev, hl⟩ => ⟨k, ev ▸ toL (c.new (Nat.le_refl _)) hl (by rw [← e]; simpa using values_strs l)⟩) fun _ _ e => e⟩
theorem meth_replace (x y z : Str) (hyz : (y == z) = false) (hb : x.length + (x.length + 1) * z.length ≤ 16777216) : METH w A "replace" (S x) [.old y, .new z] (S (Txt.replace x y z)) :=
  ⟨"str", _, F.plainAttrs_str, F.slot_str_replace, F.type_str_replace, str_is x, fun M g ov vs ho ha s u c => by
    obtain ⟨t, rfl⟩ := unS ho
    obtain ⟨v, a, rfl, ⟨t1, rfl, h1, h2⟩, ⟨t2, rfl, h3⟩⟩ := all2 ha
    exact SC.replace h1 (fun e => by subst e; exact absurd h3 (by decide)) (fun e => by subst e; exact absurd h3 (Nat.not_le.mpr h2)) hyz hb fun t' k => ⟨Keeps.tok (Keeps.rfl s) _, isD_str⟩⟩
theorem meth_get (f : Str → Option PyData) (k : Str) : METH w A "get" (.smap f) [S k] (.d ((f k).getD .none)) :=
  ⟨"dict", "dict.get", F.plainAttrs_dict, F.slot_dict_get, F.type_dict_get, fun M s ov h => by
    obtain ⟨a, F, rfl, _, _, hm, _⟩ := h
    exact ⟨hm.typeIs, hm.noDict⟩, fun M g ov vs ho ha s u c => by
    obtain ⟨a, Fm, rfl, h1, h2, hm, hv⟩ := IsD.up (prog := pg) (w := w) (d := .smap f) ho u
    obtain ⟨v, rfl, hk⟩ := all1 ha
    obtain ⟨t', rfl⟩ := unS hk
    refine call_meetsIn F.slot_dict_get hm.typeIs F.entry_dict_get (F.args_dict_get_2 _ _) (meets_dict_get (strKind pg w) a (strKind_is pg w k t') (by simpa using h2)) ⟨Fm, hm, ⟨Keeps.tok (Keeps.rfl s) _, ?_⟩⟩
    have := hv k
    cases hf : f k with
    | none => rw [hf] at this; rw [this]; exact @is_none M s.heap
    | some d => rw [hf] at this; obtain ⟨u', e, hi⟩ := this; rw [e]; exact hi⟩

-- built-in functions
theorem callee_builtin (id : String) : Callee w (.builtin id) := fun _ _ => .inr (.inl ⟨id, rfl⟩)
theorem callee_type (id : String) : Callee w (.type id) := fun _ _ => .inr (.inr ⟨id, rfl⟩)
theorem call_len_s (x : Str) (hx : x.length ≤ sizeLine) : CALL w A (.builtin "len") [S x] (I x.length) := .mk <| fun M g vs ha s u c => by
  obtain ⟨v, rfl, hv⟩ := all1 ha
  obtain ⟨t, rfl⟩ := unS hv
  exact P.len_str (by have : sizeLine < 2 ^ 62 := by decide
                      omega) ⟨Keeps.tok (Keeps.rfl s) _, isD_int⟩
theorem call_len_l (ds : List PyData) (hx : ds.length ≤ sizeLine) : CALL w A (.builtin "len") [L ds] (I ds.length) := .mk <| fun M g vs ha s u c => by
  obtain ⟨v, rfl, hv⟩ := all1 ha
  obtain ⟨a, us, rfl, _, hl, hr⟩ := unL (hv.up u)
  have e : us.size = ds.length := by rw [← hr.length]; simp
  exact Calls.call_len_list hl (by have : sizeLine < 2 ^ 62 := by decide
                                   rw [e]; omega) (by rw [e]; exact ⟨Keeps.tok (Keeps.rfl s) _, isD_int⟩)
theorem ints_items {M : List Addr} {h : Heap} : ∀ {xs : List Int} {vs : List Value}, IsAll M h (xs.map .int) vs → ∃ l : List (Int × Tok), vs = l.map (fun p => .int p.1 p.2) ∧ l.map (·.1) = xs
  | [], vs, x => ⟨[], by rw [IsAll.nil x]; rfl, rfl⟩
  | x :: xs, vs, hx => by
    obtain ⟨v, r, rfl, h1, h2⟩ := IsAll.cons hx
    obtain ⟨t, rfl⟩ := h1.int
    obtain ⟨l, rfl, e⟩ := ints_items h2
    exact ⟨(x, t) :: l, rfl, by simp [e]⟩
theorem preSum_list (l : List (Int × Tok)) : ∀ k, preSum (numAt l.toArray) k = ((l.map (·.1)).take k).sum
  | 0 => by simp [preSum]
  | k + 1 => by
    rw [preSum, preSum_list l k, List.take_add_one, List.sum_append]
    congr 1
    simp only [numAt, List.getElem?_toArray, List.getElem?_map]
    cases l[k]? <;> simp
theorem call_sum (xs : List Int) : CALL w A (.builtin "sum") [L (xs.map .int)] (I xs.sum) := .mk <| fun M g vs ha s u c => by
  obtain ⟨v, rfl, hv⟩ := all1 ha
  obtain ⟨a, us, rfl, _, ⟨o, h1, h2, n, h3⟩, hr⟩ := unL (hv.up u)
  obtain ⟨l, e1, e2⟩ := ints_items hr
  have e : us = intItems l.toArray := by apply Array.toList_inj.mp; rw [e1]; simp [intItems]
  refine sum_intListG (xs := l.toArray) c.hh ⟨o, h1, h2, n, by rw [h3, e]⟩ fun h' tk t' k => ⟨Keeps.heap (Keeps.rfl s) k, ?_⟩
  rw [preSum_list, List.take_of_length_le (by simp), e2]
  exact isD_int
/-- the sorted list -/
noncomputable def leS (a b : Str) : Bool := decide (a.cps.toList ≤ b.cps.toList)
noncomputable def srt (ss : List Str) : List Str := ss.mergeSort leS
theorem leS_trans (a b c : Str) (x : leS a b = true) (y : leS b c = true) : leS a c = true := by
  unfold leS at *
  simp only [decide_eq_true_eq] at *
  exact List.le_trans x y
theorem leS_total (a b : Str) : (leS a b || leS b a) = true := by
  unfold leS
  simp only [Bool.or_eq_true, decide_eq_true_eq]
  exact List.le_total ..
theorem leS_anti (a b : Str) (x : leS a b = true) (y : leS b a = true) : a = b := by
  unfold leS at *
  simp only [decide_eq_true_eq] at *
  have := List.le_antisymm x y
  obtain ⟨a⟩ := a; obtain ⟨b⟩ := b
  exact congrArg Str.mk (Array.toList_inj.mp this)
theorem rising_pw : ∀ (l : List Str) (p : Str), risingS p l = true → (p :: l).Pairwise (fun a b => leS a b = true)
  | [], p, _ => by simp
  | x :: r, p, h => by
    unfold risingS at h
    rw [Bool.and_eq_true] at h
    have h1 : leS p x = true := by
      have h1 := h.1
      rw [ltCps_eq] at h1
      unfold leS
      simpa using h1
    have h2 := rising_pw r x h.2
    refine List.pairwise_cons.mpr ⟨fun b hb => ?_, h2⟩
    rcases List.mem_cons.mp hb with rfl | hb
    · exact h1
    · exact leS_trans _ _ _ h1 (List.rel_of_pairwise_cons h2 hb)
theorem sorted_pw : ∀ (l : List Str), sortedS l = true → l.Pairwise (fun a b => leS a b = true)
  | [], _ => List.Pairwise.nil
  | x :: r, h => rising_pw r x h
theorem srt_of {ss ss' : List Str} (h : ss'.Perm ss) (hs : sortedS ss' = true) : ss' = srt ss :=
  List.Perm.eq_of_pairwise (le := fun a b => leS a b = true) (fun a b _ _ x y => leS_anti a b x y) (sorted_pw _ hs) (List.pairwise_mergeSort leS_trans leS_total ss) (h.trans (List.mergeSort_perm ss leS).symm)
theorem srt_perm {ss ss' : List Str} (h : ss'.Perm ss) : srt ss' = srt ss :=
  List.Perm.eq_of_pairwise (le := fun a b => leS a b = true) (fun a b _ _ x y => leS_anti a b x y) (List.pairwise_mergeSort leS_trans leS_total ss') (List.pairwise_mergeSort leS_trans leS_total ss) ((List.mergeSort_perm ss' leS).trans (h.trans (List.mergeSort_perm ss leS).symm))
theorem strsAre_values : ∀ l : List (Str × Tok), StrsAre (strValues l) (l.map (·.1))
  | [] => .nil
  | (x, t) :: l => .cons x t (strsAre_values l)
theorem isAll_strsAre {M : List Addr} {h : Heap} : ∀ {vs : List Value} {ss : List Str}, StrsAre vs ss → IsAll M h (ss.map .str) vs
  | _, _, .nil => isAll_nil
  | _, _, .cons y t r => isAll_cons is_str (isAll_strsAre r)
theorem call_sorted (xs : List Str) (hx : xs.length < 64) : CALL w A (.builtin "sorted") [L (xs.map .str)] (L ((srt xs).map .str)) := .mk <| fun M g vs ha s u c => by
  obtain ⟨v, rfl, hv⟩ := all1 ha
  obtain ⟨a, us, rfl, _, ⟨o, h1, h2, n, h3⟩, hr⟩ := unL (hv.up u)
  obtain ⟨l, e1, e2⟩ := strs_values hr
  have e : us = (strValues l).toArray := by apply Array.toList_inj.mp; rw [e1]
  subst e2
  refine sorted_strs (vs := strValues l) ⟨o, h1, h2, n, by rw [h3, e]⟩ (strsAre_values l) (by simpa [strValues] using hx) fun out ss' a1 a2 a3 => ?_
  obtain ⟨k, he⟩ := sortedAll_at s.heap (strValues l) out
  refine ⟨⟨_, s.toks, rfl, fun _ _ => sortedAll_old⟩, toL (c.new (Nat.le_succ _)) ⟨_, he, rfl, k, rfl⟩ ?_⟩
  rw [← srt_of a2 a3]
  exact isAll_strsAre a1
end
end Mine
-- F4
namespace Mine
section
variable {w : World} {A : Around} {ns : List (Str × NameKind)} {σ : Sg} {M : List Addr} {g : Heap} {env : Env}

theorem op_mul_str (x : Str) (n : Int) (hok : MulOk x n) : OP w A .Mult (S x) (I n) (S (Txt.mul x n)) := fun M g a b ha hb => by
  obtain ⟨t, rfl⟩ := unS ha; obtain ⟨u, rfl⟩ := unI hb
  exact fun s _ _ => SB.mul hok fun t' k => ⟨Keeps.tok (Keeps.rfl s) _, isD_str⟩
theorem op_cat_list (xs ys : List PyData) (hz : xs.length + ys.length ≤ sizeLine) : OP w A .Add (L xs) (L ys) (L (xs ++ ys)) := fun M g a b ha hb s u c => by
  obtain ⟨l, vs, rfl, _, hl, hv⟩ := unL (ha.up u)
  obtain ⟨l', vs', rfl, _, hl', hv'⟩ := unL (hb.up u)
  obtain ⟨⟨cls, dd, data, sl⟩, ho, hc, n, hd⟩ := id hl
  obtain ⟨⟨cls2, dd2, data2, sl2⟩, ho2, hc2, n2, hd2⟩ := id hl'
  simp only at hc hd hc2 hd2
  subst hc hd hc2 hd2
  have e1 : vs.size = xs.length := by rw [← hv.length]; simp
  have e2 : vs'.size = ys.length := by rw [← hv'.length]; simp
  refine concat_meets ⟨_, ho, rfl⟩ ⟨_, ho2, rfl⟩ noFill_list_add seq_list_add PySem.F.slot_list_add PySem.F.entry_list_add (PySem.F.args_list_add_2 _ _) (list_addW l l' vs vs' n n2 dd dd2 sl sl2 (by omega)) ⟨ho, ho2, Keeps.push (Keeps.rfl s) _, toL (c.new (Nat.le_refl _)) ⟨_, Heap.get?_push_size _ rfl, rfl, _, rfl⟩ ?_⟩
  simpa using (isAll_append hv hv').up (Up.push _ _)
theorem isAll_rep {h : Heap} {xs : List PyData} {vs : List Value} (x : IsAll M h xs vs) : ∀ n : Nat, IsAll M h (List.replicate n xs).flatten (List.replicate n vs).flatten
  | 0 => isAll_nil
  | n + 1 => by rw [List.replicate_succ, List.replicate_succ, List.flatten_cons, List.flatten_cons]; exact isAll_append x (isAll_rep x n)
theorem foldl_arr : ∀ (l : List (Array Value)) (a : Array Value), (l.foldl (fun x1 x2 => x1 ++ x2) a).toList = a.toList ++ (l.map Array.toList).flatten
  | [], a => by simp
  | x :: l, a => by rw [List.foldl_cons, foldl_arr l (a ++ x)]; simp
/-- a written list, so many times -/
theorem ee_list_mul {es : List Expr} {ds : List PyData} {p pos : Pos} {b : Expr} {n : Int} (h : EEs w A ns σ es (ds.map .d)) (hb : EE w A ns σ b (I n)) (h0 : 0 ≤ n) (h1 : n < 2 ^ 63) (hz : ds.length * n.toNat ≤ 2 ^ 20) (hne : ds ≠ [])
    (hsz : ds.length ≤ sizeLine := by decide) (hs : ∀ env, starEach es env = es.map fun e => (false, eval e env) := by intro _; rfl) : EE w A ns σ (.BinOp (.List es p) .Mult b pos) (L (List.replicate n.toNat ds).flatten) := .mk <| fun env M g he hv s u c => by
  refine wpAny_BinOp (wpAny_List ?_)
  rw [hs, backTo_plain]
  refine (h.run he hv).use u c fun vs s1 k1 c1 p1 => ⟨by rw [p1.py.length]; exact hsz, ?_⟩
  have c2 : CX w A M { s1 with heap := s1.heap.push { cls := .type "list", data := .seq vs.toArray } } := c1.up (Up.push _ _) (Nat.le_refl _)
  have k2 := Keeps.push k1 { cls := .type "list", data := .seq vs.toArray }
  refine ((hb.run env M g he hv).up (u.trans (Keeps.upto k2))).use (Up.refl _) c2 fun v s3 k3 c3 p3 => ?_
  obtain ⟨t, rfl⟩ := unI p3
  have hl : s3.heap.get? s1.heap.objs.size = some { cls := .type "list", data := .seq vs.toArray } := Keeps.upto k3 _ _ (Heap.get?_push_size _ rfl)
  have e : vs.length = ds.length := by rw [p1.py.length]
  have hz2 : vs.toArray.size * n.toNat ≤ 2 ^ 20 := by rw [List.size_toArray, e]; exact hz
  have hi : vs.toArray.isEmpty = false := by
    cases vs with
    | nil => exact absurd (List.length_eq_zero_iff.mp (by simpa using e.symm)) hne
    | cons => rfl
  refine wpAny_binaryOp_repeat_ref (T := "list") (U := "int") (by decide) ⟨_, hl, rfl⟩ (fun s' => typeIs_int s' n t) noFill_list_mul F.fills_int_mul F.slot_int_rmul repeat_list F.slot_int_index.lookup
    (call_meets F.slot_int_rmul (typeIs_int s3 n t) F.entry_int_rmul (F.args_int_rmul_2 _ _) (int___rmul___int_list n t s1.heap.objs.size vs.toArray 0)
      ⟨hl, rfl, ⟨_, hl, rfl⟩, call_meets F.slot_list_mul ⟨_, hl, rfl⟩ F.entry_list_mul (F.args_list_mul_2 _ _)
        (AutoListH.list___mul___list_int_3 s1.heap.objs.size vs.toArray 0 n t (by simp [Builtin.List.listFitsIndex]; omega) (by omega) (by simp only [Builtin.List.listTooLong, sizeLine, gt_iff_lt, decide_eq_true_eq, Nat.not_lt]; exact Nat.le_trans hz2 (by decide)))
        ⟨hl, Keeps.push (Keeps.tr k2 k3) _, toL (c3.new (Nat.le_refl _)) ⟨_, Heap.get?_push_size _ rfl, rfl, _, rfl⟩ ?_⟩⟩)
  rw [hi]
  simp only [Bool.false_eq_true, if_false]
  rw [foldl_arr]
  have := isAll_rep ((p1.py.up (Up.push _ _)).up (Keeps.upto k3)) n.toNat
  refine IsAll.up ?_ (Up.push _ _)
  simpa using this

-- slices
theorem ee_slice_from {v : Expr} {k : Nat} {ck : Nat} {q p pos : Pos} {ds : List PyData} (hv : EE w A ns σ v (L ds)) (hsz : ds.length ≤ sizeLine)
    (ht : ∀ o r, letTemporaryGo v o r = pure () := by intro _ _; rfl) : EE w A ns σ (.Subscript v (.Slice (some (.Constant (.int k) ck q)) none none p) pos) (L (ds.drop k)) := .mk <| fun env M g he ho s u c => by
  refine wpAny_Subscript_list_slice ((hv.run env M g he ho).use u c fun o s1 k1 c1 p1 => ?_) ht
  rw [evalPart_some, evalPart_none]
  refine wpAny_Constant_int (wpAny_pure ?_)
  obtain ⟨a, vs, rfl, _, hl, hr⟩ := unL p1
  refine ⟨a, vs, some (k : Int), none, rfl, hl, by rw [← Array.length_toList, hr.length]; exact hsz, .int _ _, .none, ?_, ?_⟩
  · exact Keeps.heap k1 (fun b o e => Heap.get?_push_of_some _ (Heap.get?_push_of_some _ e))
  · refine toL (vs := slicePick vs (some (k : Int)) none none) ?_ ⟨{ cls := .type "list", data := .seq (slicePick vs (some (k : Int)) none none) }, ?_, rfl, 0, rfl⟩ ?_
    · exact c1.new (Nat.le_succ _)
    · rw [← Heap.size_push s1.heap]; exact Heap.get?_push_size _ rfl
    · rw [slicePick_from']
      have : IsAll M s1.heap (ds.drop k) (vs.toList.drop k) := by
        refine isAll_of (by rw [List.length_drop, List.length_drop, hr.length]) fun i v d e1 e2 => ?_
        rw [List.getElem?_drop] at e1 e2
        obtain ⟨d', e3, h3⟩ := hr.get' e1
        rw [e2] at e3; cases e3; exact h3
      exact this.up (fun b o e => Heap.get?_push_of_some _ (Heap.get?_push_of_some _ e))
theorem ee_slice_upto {v : Expr} {k : Nat} {ck : Nat} {q p pos : Pos} {ds : List PyData} (hv : EE w A ns σ v (L ds)) (hsz : ds.length ≤ sizeLine)
    (ht : ∀ o r, letTemporaryGo v o r = pure () := by intro _ _; rfl) : EE w A ns σ (.Subscript v (.Slice none (some (.Constant (.int k) ck q)) none p) pos) (L (ds.take k)) := .mk <| fun env M g he ho s u c => by
  refine wpAny_Subscript_list_slice ((hv.run env M g he ho).use u c fun o s1 k1 c1 p1 => ?_) ht
  rw [evalPart_some, evalPart_none]
  refine wpAny_pure (wpAny_Constant_int ?_)
  obtain ⟨a, vs, rfl, _, hl, hr⟩ := unL p1
  refine ⟨a, vs, none, some (k : Int), rfl, hl, by rw [← Array.length_toList, hr.length]; exact hsz, .none, .int _ _, ?_, ?_⟩
  · exact Keeps.heap k1 (fun b o e => Heap.get?_push_of_some _ (Heap.get?_push_of_some _ e))
  · refine toL (vs := slicePick vs none (some (k : Int)) none) ?_ ⟨{ cls := .type "list", data := .seq (slicePick vs none (some (k : Int)) none) }, ?_, rfl, 0, rfl⟩ ?_
    · exact c1.new (Nat.le_succ _)
    · rw [← Heap.size_push s1.heap]; exact Heap.get?_push_size _ rfl
    · rw [slicePick_upto']
      have : IsAll M s1.heap (ds.take k) (vs.toList.take k) := by
        refine isAll_of (by rw [List.length_take, List.length_take, hr.length]) fun i v d e1 e2 => ?_
        rw [List.getElem?_take] at e1 e2
        split at e1
        · rename_i hik
          rw [if_pos hik] at e2
          obtain ⟨d', e3, h3⟩ := hr.get' e1
          rw [e2] at e3; cases e3; exact h3
        · cases e1
      exact this.up (fun b o e => Heap.get?_push_of_some _ (Heap.get?_push_of_some _ e))
noncomputable def strTake (x : Str) (k : Nat) : Str := ⟨(x.cps.toList.take k).toArray⟩
noncomputable def strDrop (x : Str) (k : Nat) : Str := ⟨(x.cps.toList.drop k).toArray⟩
theorem sliceText_take1 (x : Str) : StrLaws.sliceText x none (some 1) = strTake x 1 := by
  obtain ⟨⟨l⟩⟩ := x
  cases l with
  | nil => rfl
  | cons a l => rw [StrLaws.sliceText_to ⟨by decide, by simp; omega⟩]; rfl
theorem sliceText_drop (x : Str) (k : Nat) (hk : k ≤ x.length) : StrLaws.sliceText x (some (k : Int)) none = strDrop x k := by
  rw [StrLaws.sliceText_from ⟨by omega, by simpa [Str.length] using hk⟩]
  unfold strDrop
  congr 2
  rw [List.take_of_length_le]
  · simp
  · simp
theorem made_slice {x : Str} {t : Tok} {l u : Option (Int × Tok)} {Q : Value → Shared → Prop} {s : Shared} (hx : (StrLaws.sliceText x (l.map (·.1)) (u.map (·.1))).length ≤ sizeLine) (h : ∀ t' k, Q (.str (StrLaws.sliceText x (l.map (·.1)) (u.map (·.1))) t') { s with toks := k }) : (sliceMade x t l u none).post Q s := by
  unfold sliceMade
  unfold StrLaws.sliceText at h hx
  unfold slicePicked
  by_cases hc : ((1 : Int) == 1 && (Builtin.Str.strSliceIndices (l.map (·.1)) (u.map (·.1)) 1 x.length).length == x.length) = true
  · rw [if_pos hc] at h
    rw [if_pos (by simpa using hc)]
    exact h t s.toks
  · rw [if_neg hc] at h hx
    rw [if_neg (by simpa using hc)]
    exact ⟨hx, h _ _⟩
theorem ee_str_upto {v : Expr} {k : Nat} {ck : Nat} {q p pos : Pos} {x : Str} (hv : EE w A ns σ v (S x)) (hsz : (StrLaws.sliceText x none (some (k : Int))).length ≤ sizeLine)
    (ht : ∀ o r, letTemporaryGo v o r = pure () := by intro _ _; rfl) : EE w A ns σ (.Subscript v (.Slice none (some (.Constant (.int k) ck q)) none p) pos) (S (StrLaws.sliceText x none (some (k : Int)))) := .mk <| fun env M g he ho s u c => by
  refine wpAny_Subscript_str_slice ((hv.run env M g he ho).use u c fun o s1 k1 c1 p1 => ?_) ht
  rw [evalPart_some, evalPart_none]
  refine wpAny_pure (wpAny_Constant_int ?_)
  obtain ⟨t, rfl⟩ := unS p1
  exact ⟨x, t, none, some (k, s1.toks), rfl, rfl, rfl, made_slice hsz fun t' q => ⟨Keeps.heap k1 (Up.push _ _), isD_str⟩⟩
theorem ee_str_from {v : Expr} {k : Nat} {ck : Nat} {q p pos : Pos} {x : Str} (hv : EE w A ns σ v (S x)) (hsz : (StrLaws.sliceText x (some (k : Int)) none).length ≤ sizeLine)
    (ht : ∀ o r, letTemporaryGo v o r = pure () := by intro _ _; rfl) : EE w A ns σ (.Subscript v (.Slice (some (.Constant (.int k) ck q)) none none p) pos) (S (StrLaws.sliceText x (some (k : Int)) none)) := .mk <| fun env M g he ho s u c => by
  refine wpAny_Subscript_str_slice ((hv.run env M g he ho).use u c fun o s1 k1 c1 p1 => ?_) ht
  rw [evalPart_some, evalPart_none]
  refine wpAny_Constant_int (wpAny_pure ?_)
  obtain ⟨t, rfl⟩ := unS p1
  exact ⟨x, t, some (k, s1.toks), none, rfl, rfl, rfl, made_slice hsz fun t' q => ⟨Keeps.heap k1 (Up.push _ _), isD_str⟩⟩
/-- two texts that are not empty, glued: a new text -/
theorem ee_cat_new {a b : Expr} {pos : Pos} {x y : Str} (ha : EE w A ns σ a (S x)) (hb : EE w A ns σ b (S y)) (hx : (x.length == 0) = false) (hy : (y.length == 0) = false) (hz : x.length + y.length ≤ sizeLine) : EE w A ns σ (.BinOp a .Add b pos) (.new (x ++ y)) := .mk <|
  fun env M g he hv => TR.two (ha.run env M g he hv) (hb.run env M g he hv) (isD_mono _) (f := binaryOp .Add) (fun g' v u _ hv hu => by
    obtain ⟨t, rfl⟩ := unS hv; obtain ⟨t', rfl⟩ := unS hu
    refine fun s _ c => P.add_str ?_
    rw [if_neg (by rw [hx]; decide), if_neg (by rw [hy]; decide)]
    exact ⟨by rw [size_cat]; exact hz, Keeps.tok (Keeps.rfl s) _, s.toks, rfl, c.tk⟩) (fun _ _ _ h => wpAny_BinOp h)
theorem ee_str_new {x : Str} {k : Nat} {pos : Pos} : EE w A ns σ (.Constant (.str x) k pos) (.new x) := .mk <| fun _ _ _ _ _ s _ c => wpAny_Constant_str ⟨Keeps.tok (Keeps.rfl s) _, s.toks, rfl, c.tk⟩
theorem ee_of_new {e : Expr} {x : Str} (h : EE w A ns σ e (.new x)) : EE w A ns σ e (S x) := .mk <| fun env M g he hv => (h.run env M g he hv).mono fun s v _ _ ⟨t, e, _⟩ => by subst e; exact isD_str
theorem ee_of_old {e : Expr} {x : Str} (h : EE w A ns σ e (.old x)) : EE w A ns σ e (S x) := .mk <| fun env M g he hv => (h.run env M g he hv).mono fun s v _ _ ⟨t, e, _⟩ => by subst e; exact isD_str
theorem item_tmap {v i : Expr} {f : Int → Option Str} {k : Int} {x : Str} (hf : f k = some x)
    (hs : ∀ o j, subscripted i false o j = operate [o, j] (getItem o j) := by intro _ _; with_unfolding_all rfl) : ITEM w A v i (.tmap f) (I k) (.old x) := fun M g x y hx hy s u c => by
  obtain ⟨a, F, rfl, ha, hsy, hm, hv⟩ := IsD.up (prog := pg) (w := w) (d := .tmap f) hx u
  obtain ⟨t, rfl⟩ := unI hy
  have := hv k
  rw [hf] at this
  obtain ⟨t', ht, h1, h2⟩ := this
  exact tail_any hm.typeIs slot_dict_getitem.lookup (wpAny_getItem_of (intKind_is pg w k t) hm ht ⟨Keeps.tok (Keeps.rfl s) _, t', rfl, h1, h2⟩) (hs _ _)
end
end Mine
-- F5
namespace Mine

/-- only the objects of T change -/
noncomputable def ChgH (T : List Addr) (h h' : Heap) : Prop := ∀ b o, b ∉ T → h.get? b = some o → h'.get? b = some o
noncomputable def Chg (T : List Addr) (s s' : Shared) : Prop := ∃ h' tk, s' = { s with heap := h', toks := tk } ∧ ChgH T s.heap h'
theorem ChgH.refl {T : List Addr} (h : Heap) : ChgH T h h := fun _ _ _ e => e
theorem ChgH.tr {T T' : List Addr} {a b c : Heap} (x : ChgH T a b) (y : ChgH T' b c) (ht : ∀ t ∈ T', t ∈ T ∨ a.get? t = none) : ChgH T a c := fun t o h e => y t o (fun q => by
  rcases ht t q with q | q
  · exact h q
  · rw [q] at e; cases e) (x t o h e)
theorem ChgH.mono {T T' : List Addr} {a b : Heap} (x : ChgH T a b) (ht : ∀ t ∈ T, t ∈ T' ∨ a.get? t = none) : ChgH T' a b := fun t o h e => x t o (fun q => by
  rcases ht t q with q | q
  · exact h q
  · rw [q] at e; cases e) e
theorem Up.chgH {T : List Addr} {a b : Heap} (u : Up a b) : ChgH T a b := fun t o _ e => u t o e
theorem Chg.rfl {T : List Addr} (s : Shared) : Chg T s s := ⟨_, _, Eq.refl _, ChgH.refl _⟩
theorem Chg.tr {T T' : List Addr} {a b c : Shared} (x : Chg T a b) (y : Chg T' b c) (ht : ∀ t ∈ T', t ∈ T ∨ a.heap.get? t = none) : Chg T a c := by
  obtain ⟨h, t, rfl, u⟩ := x
  obtain ⟨h', t', rfl, u'⟩ := y
  exact ⟨h', t', Eq.refl _, u.tr u' ht⟩
theorem Chg.trs {T : List Addr} {a b c : Shared} (x : Chg T a b) (y : Chg T b c) : Chg T a c := x.tr y fun _ h => .inl h
theorem Chg.mono {T T' : List Addr} {a b : Shared} (x : Chg T a b) (ht : ∀ t ∈ T, t ∈ T' ∨ a.heap.get? t = none) : Chg T' a b := by
  obtain ⟨h, t, rfl, u⟩ := x
  exact ⟨h, t, Eq.refl _, u.mono ht⟩
theorem Chg.h {T : List Addr} {a b : Shared} (x : Chg T a b) : ChgH T a.heap b.heap := by obtain ⟨h, t, rfl, u⟩ := x; exact u
theorem Keeps.chg {T : List Addr} {a b : Shared} (x : Keeps a b) : Chg T a b := by obtain ⟨h, t, rfl, u⟩ := x; exact ⟨h, t, Eq.refl _, fun b o _ e => u b o e⟩
theorem Chg.keeps {T : List Addr} {a b : Shared} (x : Chg T a b) (ht : ∀ t ∈ T, a.heap.get? t = none) : Keeps a b := by
  obtain ⟨h, t, rfl, u⟩ := x
  exact ⟨h, t, Eq.refl _, fun b o e => u b o (fun q => by rw [ht b q] at e; cases e) e⟩
theorem ChgH.isSome {T : List Addr} {h h' : Heap} (c : ChgH T h h') (hT : ∀ t ∈ T, ∃ o, h'.get? t = some o) {a : Addr} (ha : ∃ o, h.get? a = some o) : ∃ o, h'.get? a = some o := by
  by_cases q : a ∈ T
  · exact hT a q
  · obtain ⟨o, e⟩ := ha
    exact ⟨o, c a o q e⟩
theorem sameBut_chg {a : Addr} {h h' : Heap} (x : Heap.SameBut a h h') : ChgH [a] h h' := fun b o hb e => x.extBut b o (by simpa using hb) e
theorem extBut_chg {a : Addr} {h h' : Heap} (x : Heap.ExtBut a h h') : ChgH [a] h h' := fun b o hb e => x b o (by simpa using hb) e

/-- what lies beyond M stays, if what changes is of M or is no sequence -/
theorem ChgH.stays {T M : List Addr} {h h' : Heap} (c : ChgH T h h') (ht : ∀ t ∈ T, t ∈ M ∨ ∀ o, h.get? t = some o → ¬ Kept o) : Stays M M h h' := fun b o hb hk e =>
  ⟨c b o (fun q => by
    rcases ht b q with q | q
    · exact hb q
    · exact q o e hk) e, hb⟩
theorem cell_notKept {h : Heap} {c : Addr} {v : Option Value} (x : h.IsCell c v) : ∀ o, h.get? c = some o → ¬ Kept o := fun o e hk => by
  obtain ⟨o', e', hd⟩ := x
  rw [e] at e'; cases e'
  rcases hk with ⟨vs, n, q⟩ | ⟨vs, n, q⟩ <;> rw [hd] at q <;> cases q

/-- a frame's names -/
structure FRM (env : Env) (oc : List Addr) (m : Str → Option Value) (h : Heap) : Prop where
  ns : ∃ ml, h.Ns env.locals ml ∧ ∀ x, env.kindOf x = some .local → ml x = m x
  cl : ∀ x c, env.kindOf x ≠ some .local → env.cells.lookup x = some c → h.IsCell c (m x)
  ap : ∀ x y c, c ∈ oc → env.cells.lookup x = some c → env.cells.lookup y = some c → x = y
  lk : ∀ x, env.kindOf x = some .cell ∨ env.kindOf x = some .free → m x ≠ none → ∃ c, env.cells.lookup x = some c
  oc : ∀ c ∈ oc, 106 < c ∧ ∃ x, env.kindOf x = some .cell ∧ env.cells.lookup x = some c
noncomputable def setm (m : Str → Option Value) (x : Str) (v : Value) : Str → Option Value := fun y => if y = x then some v else m y
theorem isCell_locals {env : Env} {h : Heap} {m : Str → Option Value} {c : Addr} {v : Option Value} (n : h.Ns env.locals m) (x : h.IsCell c v) : c ≠ env.locals := fun e => by
  subst e
  obtain ⟨o, es, ep, h1, h2, _⟩ := n
  obtain ⟨o', h3, h4⟩ := x
  rw [h1] at h3; cases h3; rw [h2] at h4; cases h4
theorem FRM.chg {env : Env} {oc : List Addr} {m : Str → Option Value} {h h' : Heap} {T : List Addr} (F : FRM env oc m h) (c : ChgH T h h') (hl : env.locals ∉ T) (hc : ∀ x a, env.cells.lookup x = some a → a ∉ T) : FRM env oc m h' :=
  ⟨let ⟨ml, a, b⟩ := F.ns; ⟨ml, a.at' fun o e => c _ _ hl e, b⟩, fun x a k e => let ⟨o, h1, h2⟩ := F.cl x a k e; ⟨o, c _ _ (hc x a e) h1, h2⟩, F.ap, F.lk, F.oc⟩
theorem FRM.up {env : Env} {oc : List Addr} {m : Str → Option Value} {h h' : Heap} (F : FRM env oc m h) (u : Up h h') : FRM env oc m h' := F.chg (T := []) u.chgH (by simp) (by simp)
/-- the name may be stored -/
noncomputable def Sto (env : Env) (oc : List Addr) (x : Str) : Prop := env.kindOf x = some .local ∨ (env.kindOf x = some .cell ∧ ∃ c, env.cells.lookup x = some c ∧ c ∈ oc)
theorem wp_store {w : World} {A : Around} {env : Env} {oc : List Addr} {m : Str → Option Value} {x : Str} {v : Value} {s : Shared} {Q : Unit → Shared → Prop} {E : Value → Shared → Prop} (F : FRM env oc m s.heap) (hk : env.scope.kind = .function) (hx : Sto env oc x)
    (h : ∀ s', FRM env oc (setm m x v) s'.heap → Chg (env.locals :: oc) s s' → Q () s') : wpAny (model pg w) A (storeName env x v) Q E s := by
  obtain ⟨ml, hn, hm⟩ := F.ns
  rcases hx with hl | ⟨hl, c, hc, ho⟩
  · refine wpAny_storeName_local hl hn (fun h' hn' hs' => h _ ⟨⟨_, hn', fun y hy => ?_⟩, fun y a k e => ?_, F.ap, fun y hy hne => F.lk y hy (fun q => hne (by unfold setm; rw [if_neg (fun e => by subst e; rcases hy with hy | hy <;> rw [hl] at hy <;> cases hy)]; exact q)), F.oc⟩ ⟨h', _, rfl, (sameBut_chg hs').mono fun t ht => .inl (by simp at ht; simp [ht])⟩) (by rw [hk]; rfl)
    · unfold setm
      by_cases e : y = x
      · simp [e]
      · simp [e, hm y hy]
    · have i := F.cl y a k e
      have hne := isCell_locals hn i
      have hy : y ≠ x := fun e' => by subst e'; exact k hl
      unfold setm
      rw [if_neg hy]
      exact i.sameBut hs' hne
  · have i := F.cl x c (by rw [hl]; decide) hc
    have hne := isCell_locals hn i
    refine wpAny_storeName_cell hk hl hc i fun h' hc' hs' => h _ ⟨⟨ml, hn.sameBut hs' (Ne.symm hne), fun y hy => ?_⟩, fun y a k e => ?_, F.ap, fun y hy hne => by
      by_cases e : y = x
      · subst e; exact ⟨c, hc⟩
      · exact F.lk y hy (fun q => hne (by unfold setm; rw [if_neg e]; exact q)), F.oc⟩ ⟨h', s.toks, rfl, (sameBut_chg hs').mono fun t ht => .inl (by simp at ht; simp [ht, ho])⟩
    · unfold setm
      rw [if_neg (fun e => by subst e; rw [hl] at hy; cases hy), hm y hy]
    · unfold setm
      by_cases e' : y = x
      · subst e'
        rw [hc] at e; cases e
        simpa using hc'
      · rw [if_neg e']
        exact (F.cl y a k e).sameBut hs' fun q => e' (F.ap y x c ho (q ▸ e) hc)

/-- the targets' new bindings -/
inductive Tgt (env : Env) (oc : List Addr) : Expr → D → Sg → Prop
  | name {x p d} : Sto env oc x → Tgt env oc (.Name x p) d [(x, d)]
  | pair {x y p q r k d e} : Sto env oc x → Sto env oc y → x ≠ y → Tgt env oc (.Tuple [.Name x p, .Name y q] k r) (T [d, e]) [(x, .d d), (y, .d e)]
  | three {x y z p q r t k d e f} : Sto env oc x → Sto env oc y → Sto env oc z → x ≠ y → x ≠ z → y ≠ z → Tgt env oc (.Tuple [.Name x p, .Name y q, .Name z t] k r) (T [d, e, f]) [(x, .d d), (y, .d e), (z, .d f)]
theorem FRM.live {env : Env} {oc : List Addr} {m : Str → Option Value} {h : Heap} (F : FRM env oc m h) : ∀ t ∈ env.locals :: oc, ∃ o, h.get? t = some o := fun t ht => by
  rcases List.mem_cons.mp ht with rfl | ht
  · obtain ⟨ml, ⟨o, _, _, e, _⟩, _⟩ := F.ns; exact ⟨o, e⟩
  · obtain ⟨_, x, hk, e⟩ := F.oc t ht
    obtain ⟨o, e', _⟩ := F.cl x t (by rw [hk]; decide) e
    exact ⟨o, e'⟩
theorem FRM.stays {env : Env} {oc : List Addr} {m : Str → Option Value} {h h' : Heap} {M : List Addr} (F : FRM env oc m h) (c : ChgH (env.locals :: oc) h h') (hl : env.locals ∈ M) : Stays M M h h' := c.stays fun t ht => by
  rcases List.mem_cons.mp ht with rfl | ht
  · exact .inl hl
  · obtain ⟨_, x, hk, e⟩ := F.oc t ht
    exact .inr (cell_notKept (F.cl x t (by rw [hk]; decide) e))
section
variable {w : World} {A : Around}
theorem CX.chg {M T : List Addr} {s s' : Shared} (c : CX w A M s) (k : Chg T s s') (hT : ∀ t ∈ T, 106 < t ∧ (t ∈ M → ∃ o, s'.heap.get? t = some o)) (tk : s.toks ≤ s'.toks) : CX w A M s' :=
  ⟨c.hh, c.dp, c.un, fun a ha => ⟨(c.live a ha).1, by
    by_cases q : a ∈ T
    · exact (hT a q).2 ha
    · obtain ⟨o, e⟩ := (c.live a ha).2
      exact ⟨o, k.h a o q e⟩⟩,
    let ⟨g0, a, b, d⟩ := c.base; ⟨g0, a, fun t o e => k.h t o (fun q => Nat.lt_irrefl _ (Nat.lt_of_lt_of_le (hT t q).1 (a t o e))) (b t o e), d⟩, Nat.le_trans c.tk tk⟩
theorem CX.more {M : List Addr} {s : Shared} (c : CX w A M s) {a : Addr} (h : 106 < a) (e : ∃ o, s.heap.get? a = some o) : CX w A (a :: M) s :=
  ⟨c.hh, c.dp, c.un, fun b hb => by
    rcases List.mem_cons.mp hb with rfl | hb
    · exact ⟨h, e⟩
    · exact c.live b hb, c.base, c.tk⟩
theorem GL.size {h : Heap} (g : GL w h) : 106 < h.objs.size := by
  obtain ⟨_, o, _, _, _, e, _⟩ := g.fn (Str.ofString "law", 69, 106) (by simp [ftab])
  exact Heap.lt_size e
theorem FRM.chgx {env : Env} {oc M : List Addr} {m : Str → Option Value} {s s' : Shared} (F : FRM env oc m s'.heap) (c : CX w A M s) (k : Chg (env.locals :: oc) s s') (hl : env.locals ∈ M) (tk : s.toks ≤ s'.toks) : CX w A M s' := c.chg k (fun t ht => ⟨by
    rcases List.mem_cons.mp ht with rfl | ht
    · exact (c.live _ hl).1
    · exact (F.oc t ht).1, fun _ => F.live t ht⟩) tk

/-- the bindings hold -/
noncomputable def Bnd (w : World) (M : List Addr) (m : Str → Option Value) (h : Heap) (β : Sg) : Prop := ∀ p ∈ β, ∃ v, m p.1 = some v ∧ IsD pg w M h p.2 v
theorem wp_assign {env : Env} {oc M : List Addr} {m : Str → Option Value} {s : Shared} {target : Expr} {d : D} {β : Sg} {v : Value} {Q : Unit → Shared → Prop} {E : Value → Shared → Prop} (ht : Tgt env oc target d β) (F : FRM env oc m s.heap) (hk : env.scope.kind = .function)
    (hl : env.locals ∈ M) (c : CX w A M s) (hv : IsD pg w M s.heap d v)
    (h : ∀ s' m', FRM env oc m' s'.heap → Chg (env.locals :: oc) s s' → CX w A M s' → (∀ y, y ∉ β.map (·.1) → m' y = m y) → Bnd w M m' s'.heap β → Q () s') : wpAny (model pg w) A (assign target env v) Q E s := by
  cases ht with
  | name hx =>
    rename_i x p
    refine wpAny_assign_Name (wpAny_mono (wpAny_toks (wp_store (Q := fun _ s' => FRM env oc (setm m x v) s'.heap ∧ Chg (env.locals :: oc) s s') (E := fun _ _ => False) F hk hx fun s' F' k => ⟨F', k⟩)) (fun _ s' q => ?_) fun _ _ q => q.2.elim)
    refine h s' (setm m x v) q.2.1 q.2.2 (q.2.1.chgx c q.2.2 hl q.1) (fun y hy => ?_) fun p hp => ?_
    · unfold setm; rw [if_neg (by simpa using hy)]
    · obtain rfl := List.mem_singleton.mp hp
      exact ⟨v, by simp [setm], hv.stays (F.stays q.2.2.h hl)⟩
  | pair hx hy hxy =>
    rename_i x y p q r k d e
    obtain ⟨a, vs, rfl, ha, htup, hall⟩ := unT hv
    obtain ⟨v1, r1, e1, h1, hr⟩ := hall.cons
    obtain ⟨v2, r2, rfl, h2, hr⟩ := hr.cons
    obtain rfl := hr.nil
    refine wpAny_mono (wpAny_toks (Q := fun _ s' => ∃ m', FRM env oc m' s'.heap ∧ Chg (env.locals :: oc) s s' ∧ m' = setm (setm m x v1) y v2) (E := fun _ _ => False) (wpAny_assign_Tuple c.hh htup (by rw [← Array.length_toList, e1]; rfl) rfl fun h' hs' => ?_)) (fun _ s' q => ?_) fun _ _ q => q.2.elim
    · rw [e1]
      have F1 : FRM env oc m h' := F.up (fun b o e => hs' b o (Nat.ne_of_lt (Heap.lt_size e)) e)
      show wpAny _ _ (do holding [v2] (assign (.Name x p) env v1); assignInOrder [assign (.Name y q) env] [v2]) _ _ _
      refine wpAny_bind (wpAny_holding (wpAny_assign_Name (wp_store (s := { s with heap := h' }) F1 hk hx fun s1 F2 k1 => ?_)))
      show wpAny _ _ (do holding [] (assign (.Name y q) env v2); assignInOrder [] []) _ _ _
      refine wpAny_bind (wpAny_holding (wpAny_assign_Name (wp_store F2 hk hy fun s2 F3 k2 => wpAny_pure ⟨_, F3, ?_, rfl⟩)))
      exact (show Chg (env.locals :: oc) s { s with heap := h' } from ⟨h', s.toks, rfl, (extBut_chg hs').mono fun t ht => .inr (by
        obtain rfl := List.mem_singleton.mp ht
        cases e : s.heap.get? s.heap.objs.size with
        | none => rfl
        | some o => exact absurd (Heap.lt_size e) (Nat.lt_irrefl _))⟩).trs (k1.trs k2)
    · obtain ⟨tk, m', F', k', rfl⟩ := q
      refine h s' _ F' k' (F'.chgx c k' hl tk) (fun z hz => ?_) fun p hp => ?_
      · simp at hz
        unfold setm; rw [if_neg hz.2, if_neg hz.1]
      · rcases List.mem_cons.mp hp with rfl | hp
        · exact ⟨v1, by simp [setm, hxy], h1.stays (F.stays k'.h hl)⟩
        · obtain rfl := List.mem_singleton.mp hp
          exact ⟨v2, by simp [setm], h2.stays (F.stays k'.h hl)⟩
  | three hx hy hz hxy hxz hyz =>
    rename_i x y z p q r t k d e f
    obtain ⟨a, vs, rfl, ha, htup, hall⟩ := unT hv
    obtain ⟨v1, r1, e1, h1, hr⟩ := hall.cons
    obtain ⟨v2, r2, rfl, h2, hr⟩ := hr.cons
    obtain ⟨v3, r3, rfl, h3, hr⟩ := hr.cons
    obtain rfl := hr.nil
    refine wpAny_mono (wpAny_toks (Q := fun _ s' => ∃ m', FRM env oc m' s'.heap ∧ Chg (env.locals :: oc) s s' ∧ m' = setm (setm (setm m x v1) y v2) z v3) (E := fun _ _ => False) (wpAny_assign_Tuple c.hh htup (by rw [← Array.length_toList, e1]; rfl) rfl fun h' hs' => ?_)) (fun _ s' q => ?_) fun _ _ q => q.2.elim
    · rw [e1]
      have F1 : FRM env oc m h' := F.up (fun b o e => hs' b o (Nat.ne_of_lt (Heap.lt_size e)) e)
      show wpAny _ _ (do holding [v2, v3] (assign (.Name x p) env v1); assignInOrder [assign (.Name y q) env, assign (.Name z t) env] [v2, v3]) _ _ _
      refine wpAny_bind (wpAny_holding (wpAny_assign_Name (wp_store (s := { s with heap := h' }) F1 hk hx fun s1 F2 k1 => ?_)))
      show wpAny _ _ (do holding [v3] (assign (.Name y q) env v2); assignInOrder [assign (.Name z t) env] [v3]) _ _ _
      refine wpAny_bind (wpAny_holding (wpAny_assign_Name (wp_store F2 hk hy fun s2 F3 k2 => ?_)))
      show wpAny _ _ (do holding [] (assign (.Name z t) env v3); assignInOrder [] []) _ _ _
      refine wpAny_bind (wpAny_holding (wpAny_assign_Name (wp_store F3 hk hz fun s3 F4 k3 => wpAny_pure ⟨_, F4, ?_, rfl⟩)))
      exact (show Chg (env.locals :: oc) s { s with heap := h' } from ⟨h', s.toks, rfl, (extBut_chg hs').mono fun t ht => .inr (by
        obtain rfl := List.mem_singleton.mp ht
        cases e : s.heap.get? s.heap.objs.size with
        | none => rfl
        | some o => exact absurd (Heap.lt_size e) (Nat.lt_irrefl _))⟩).trs ((k1.trs k2).trs k3)
    · obtain ⟨tk, m', F', k', rfl⟩ := q
      refine h s' _ F' k' (F'.chgx c k' hl tk) (fun u hu => ?_) fun p hp => ?_
      · simp at hu
        unfold setm; rw [if_neg hu.2.2, if_neg hu.2.1, if_neg hu.1]
      · rcases List.mem_cons.mp hp with rfl | hp
        · exact ⟨v1, by simp [setm, hxy, hxz], h1.stays (F.stays k'.h hl)⟩
        · rcases List.mem_cons.mp hp with rfl | hp
          · exact ⟨v2, by simp [setm, hyz], h2.stays (F.stays k'.h hl)⟩
          · obtain rfl := List.mem_singleton.mp hp
            exact ⟨v3, by simp [setm], h3.stays (F.stays k'.h hl)⟩
end
end Mine
-- F6
namespace Mine

/-- a walk over data -/
structure Wk (w : World) (A : Around) (M : List Addr) (s s2 : Shared) (J : Addr) (fp wr : List Addr) (P : Nat → Value → Prop) (St : Nat → Heap → Prop) (ds : List D) : Prop where
  W : Walks pg w A J fp wr ds.length P St
  st : St 0 s2.heap
  fl : ∀ b ∈ fp, ∃ o, s2.heap.get? b = some o
  fs : ∀ b ∈ fp, b ∈ wr ∨ (b ∉ M ∧ ∀ o, s2.heap.get? b = some o → Kept o)
  wn : ∀ b ∈ wr, s.heap.get? b = none ∧ b ∉ M ∧ 106 < b
  sw : ∀ i h, St i h → ∀ b ∈ wr, ∃ o, h.get? b = some o ∧ ¬ Kept o
  vals : ∀ i v, i < ds.length → P i v → ∃ d, ds[i]? = some d ∧ IsD pg w M s2.heap d v
  own : ∀ i v elts (k : Nat) pos (s' : Shared) (Q : Unit → Shared → Prop) (E : Value → Shared → Prop), P i v → St (i + 1) s'.heap → Q () s' → wpAny (model pg w) A (letOwnedTupleGo (.Tuple elts k pos) (.ref J) v) Q E s'
structure ITER (w : World) (A : Around) (ns : List (Str × NameKind)) (σ : Sg) (e : Expr) (ds : List D) : Prop where
  run : ∀ env M g (Q : Value → Shared → Prop) (E : Value → Shared → Prop) s, EnvOk env ns → VarsOk w M g env σ → Up g s.heap → CX w A M s →
    (∀ s2 J fp wr P St, Keeps s s2 → CX w A M s2 → Wk w A M s s2 J fp wr P St ds → Q (.ref J) s2) →
    wpAny (model pg w) A (eval e env) (fun x s1 => wpAny (model pg w) A (pyIter x) Q E s1) E s

section
variable {w : World} {A : Around} {ns : List (Str × NameKind)} {σ : Sg} {M : List Addr} {g : Heap} {env : Env}
theorem fresh_none {h : Heap} {a : Addr} (ha : h.objs.size ≤ a) : h.get? a = none := by
  cases e : h.get? a with
  | none => rfl
  | some o => exact absurd (Heap.lt_size e) (Nat.not_lt.mpr ha)
theorem none_down {h h' : Heap} (u : Up h h') {a : Addr} (e : h'.get? a = none) : h.get? a = none := by
  cases e' : h.get? a with
  | none => rfl
  | some o => rw [u _ _ e'] at e; cases e
theorem fields_notKept {o : Obj} {fs : Array Value} (h : o.data = .fields fs) : ¬ Kept o := fun hk => by
  rcases hk with ⟨vs, n, q⟩ | ⟨vs, n, q⟩ <;> rw [h] at q <;> cases q
/-- the walk over a list object at hand -/
theorem iter_list_at {s0 s1 : Shared} {a : Addr} {vs : Array Value} {ds : List D} {Q : Value → Shared → Prop} {E : Value → Shared → Prop} (k : Keeps s0 s1) (c : CX w A M s1) (ha : a ∉ M) (hl : s1.heap.IsList a vs) (hlen : vs.size = ds.length)
    (hv : ∀ (i : Nat) v, vs[i]? = some v → ∃ d, ds[i]? = some d ∧ IsD pg w M s1.heap d v)
    (h : ∀ s2 J fp wr P St, Keeps s0 s2 → CX w A M s2 → Wk w A M s0 s2 J fp wr P St ds → Q (.ref J) s2) : wpAny (model pg w) A (pyIter (.ref a)) Q E s1 := by
  refine wpAny_pyIter_list hl ?_
  have hne : a ≠ s1.heap.objs.size := Nat.ne_of_lt (by obtain ⟨o, e, _⟩ := hl; exact Heap.lt_size e)
  have hJ : ({ s1 with heap := s1.heap.push { cls := .type "list_iterator", data := .fields #[.ref a, .int 0 0] } } : Shared).heap.get? s1.heap.objs.size = some { cls := .type "list_iterator", data := .fields #[.ref a, .int 0 0] } := Heap.get?_push_size _ rfl
  refine h _ _ _ _ _ _ (Keeps.push k _) (c.up (Up.push _ _) (Nat.le_refl _)) ⟨hlen ▸ Walks.list c.hh s1.heap.objs.size a hne vs, ⟨⟨_, hJ, rfl, rfl⟩, hl.push _⟩, ?_, ?_, ?_, ?_, ?_, ?_⟩
  · intro b hb
    simp only [List.mem_cons, List.not_mem_nil, or_false] at hb
    rcases hb with rfl | rfl
    · exact ⟨_, hJ⟩
    · obtain ⟨o, e, _⟩ := hl; exact ⟨o, Heap.get?_push_of_some _ e⟩
  · intro b hb
    simp only [List.mem_cons, List.not_mem_nil, or_false] at hb ⊢
    rcases hb with rfl | rfl
    · exact .inl rfl
    · refine .inr ⟨ha, fun o e => ?_⟩
      obtain ⟨o', e', _, n, hd⟩ := hl
      rw [show ({ s1 with heap := s1.heap.push { cls := .type "list_iterator", data := .fields #[.ref b, .int 0 0] } } : Shared).heap.get? b = some o' from Heap.get?_push_of_some _ e'] at e
      cases e; exact .inl ⟨_, _, hd⟩
  · intro b hb
    obtain rfl := List.mem_singleton.mp hb
    refine ⟨?_, c.new (Nat.le_refl _), c.G.size⟩
    cases e : s0.heap.get? s1.heap.objs.size with
    | none => rfl
    | some o => exact absurd (Heap.lt_size (Keeps.upto k _ _ e)) (Nat.lt_irrefl _)
  · rintro i h ⟨⟨o, e, _, hd⟩, _⟩ b hb
    obtain rfl := List.mem_singleton.mp hb
    exact ⟨o, e, fields_notKept hd⟩
  · intro i v _ e
    obtain ⟨d, h1, h2⟩ := hv i v e
    exact ⟨d, h1, h2.up (Up.push _ _)⟩
  · intro i v elts kk pos s' Q' E' e st hq
    cases v with
    | ref t => exact wpAny_letOwnedTupleGo_listiter st.1 hq
    | _ => exact wpAny_pure hq
theorem iter_list {e : Expr} {ds : List PyData} (h : EE w A ns σ e (L ds)) : ITER w A ns σ e (ds.map .d) := .mk fun env M g Q E s he hv u c hQ =>
  (h.run env M g he hv).use u c fun x s1 k1 c1 p1 => by
    obtain ⟨a, vs, rfl, ha, hl, hr⟩ := unL p1
    exact iter_list_at k1 c1 ha hl (by rw [← Array.length_toList, hr.length, List.length_map]) (fun i v e => by
      obtain ⟨d, h1, h2⟩ := hr.get' (i := i) (v := v) (by simpa using e)
      exact ⟨.d d, by simp [h1], h2⟩) hQ
theorem AllD.length {h : Heap} : ∀ {ds : List D} {vs : List Value}, AllD w M h ds vs → vs.length = ds.length
  | [], _, x => by obtain rfl := (show _ = _ from x); rfl
  | _ :: _, _, ⟨v, r, e, a, b⟩ => by subst e; simp [AllD.length b]
theorem AllD.get' {h : Heap} : ∀ {ds : List D} {vs : List Value} {i : Nat} {v : Value}, AllD w M h ds vs → vs[i]? = some v → ∃ d, ds[i]? = some d ∧ IsD pg w M h d v
  | [], _, _, _, x, e => by obtain rfl := (show _ = _ from x); simp at e
  | d :: ds, _, 0, _, ⟨v, r, q, a, b⟩, e => by subst q; simp at e; subst e; exact ⟨d, rfl, a⟩
  | d :: ds, _, i + 1, _, ⟨v, r, q, a, b⟩, e => by subst q; simp at e; obtain ⟨d', h1, h2⟩ := AllD.get' b e; exact ⟨d', by simpa using h1, h2⟩
theorem iter_display {es : List Expr} {ds : List D} {pos : Pos} (h : EEs w A ns σ es ds) (hz : ds.length ≤ sizeLine := by first | decide | (simp only [List.length_cons, List.length_nil]; decide)) (hs : ∀ env, starEach es env = es.map fun e => (false, eval e env) := by intro _; rfl) : ITER w A ns σ (.List es pos) ds := .mk fun env M g Q E s he hv u c hQ => by
  refine wpAny_List ?_
  rw [hs, backTo_plain]
  exact (h.run he hv).use u c fun vs s1 k1 c1 p1 => ⟨by rw [p1.length]; exact hz, iter_list_at (vs := vs.toArray) (Keeps.push k1 _) (c1.up (Up.push _ _) (Nat.le_refl _)) (c1.new (Nat.le_refl _)) ⟨_, Heap.get?_push_size _ rfl, rfl, _, rfl⟩ (by simp [p1.length]) (fun i v e => (p1.up (Up.push _ _)).get' (by simpa using e)) hQ⟩
theorem iter_ifexp {t b o : Expr} {pos : Pos} {c : Bool} {ds : List D} (ht : TT w A ns σ t c) (hb : c = true → ITER w A ns σ b ds) (ho : c = false → ITER w A ns σ o ds) : ITER w A ns σ (.IfExp t b o pos) ds := .mk fun env M g Q E s he hv u cx hQ =>
  wpAny_IfExp ((ht.run env M g he hv).use u cx fun c' s1 k1 c1 p1 => by
    subst p1
    cases c' with
    | false =>
      simp only [Bool.false_eq_true, if_false]
      exact (ho rfl).run env M g Q E s1 he hv (u.trans (Keeps.upto k1)) c1 fun s2 J fp wr P St k2 c2 W => hQ s2 J fp wr P St (Keeps.tr k1 k2) c2 { W with wn := fun b hb => ⟨none_down (Keeps.upto k1) (W.wn b hb).1, (W.wn b hb).2⟩ }
    | true =>
      simp only [if_true]
      exact (hb rfl).run env M g Q E s1 he hv (u.trans (Keeps.upto k1)) c1 fun s2 J fp wr P St k2 c2 W => hQ s2 J fp wr P St (Keeps.tr k1 k2) c2 { W with wn := fun b hb => ⟨none_down (Keeps.upto k1) (W.wn b hb).1, (W.wn b hb).2⟩ })
theorem iter_range_at {s0 s1 : Shared} {r : Addr} {a b c : Int} {t u v : Tok} {n : Nat} {Q : Value → Shared → Prop} {E : Value → Shared → Prop} (k : Keeps s0 s1) (cx : CX w A M s1) (hr : IsRange s1.heap r a b c t u v) (hs : Builtin.Range.small a b c = true) (hn : Builtin.Range.rangeSize a b c = n)
    (h : ∀ s2 J fp wr P St, Keeps s0 s2 → CX w A M s2 → Wk w A M s0 s2 J fp wr P St ((List.range n).map fun i : Nat => I (a + (i : Int) * c)) → Q (.ref J) s2) : wpAny (model pg w) A (pyIter (.ref r)) Q E s1 := by
  refine wpAny_pyIter_range hr hs ?_
  rw [hn]
  have hJ : ({ s1 with heap := s1.heap.push { cls := .type "range_iterator", data := .fields #[rawInt a, rawInt n, rawInt c] } } : Shared).heap.get? s1.heap.objs.size = some { cls := .type "range_iterator", data := .fields #[rawInt a, rawInt n, rawInt c] } := Heap.get?_push_size _ rfl
  refine h _ _ _ _ _ _ (Keeps.push k _) (cx.up (Up.push _ _) (Nat.le_refl _)) ⟨by rw [List.length_map, List.length_range]; exact Walks.range cx.hh s1.heap.objs.size a c n, by simpa [IsRangeIter] using hJ, ?_, ?_, ?_, ?_, ?_, ?_⟩
  · intro b hb
    obtain rfl := List.mem_singleton.mp hb
    exact ⟨_, hJ⟩
  · intro b hb; exact .inl hb
  · intro b hb
    obtain rfl := List.mem_singleton.mp hb
    refine ⟨?_, cx.new (Nat.le_refl _), cx.G.size⟩
    cases e : s0.heap.get? s1.heap.objs.size with
    | none => rfl
    | some o => exact absurd (Heap.lt_size (Keeps.upto k _ _ e)) (Nat.lt_irrefl _)
  · intro i h st b hb
    obtain rfl := List.mem_singleton.mp hb
    exact ⟨_, st, fields_notKept rfl⟩
  · rintro i v hi ⟨t', rfl⟩
    rw [List.length_map, List.length_range] at hi
    exact ⟨_, by simp [hi], isD_int⟩
  · rintro i v elts kk pos s' Q' E' ⟨t', rfl⟩ st hq
    exact wpAny_pure hq
/-- what range gives -/
theorem iter_range1 {x : Str} {p pos : Pos} {a : Expr} {n : Nat} (hr : ns.lookup x = some .globalImplicit) (hx : x = Str.ofString "range") (ha : EE w A ns σ a (I n)) (hn : n < 2 ^ 60) (hd : (x == ("__debug__" : Str)) = false := by decide)
    (hs : ∀ env, starEach [a] env = [a].map fun e => (false, eval e env) := by intro _; rfl) : ITER w A ns σ (.Call (.Name x p) [a] [] pos) ((List.range n).map fun i : Nat => I i) := .mk fun env M g Q E s he hv u c hQ => by
  subst hx
  refine wpAny_Call_NameR (((eg_name (w := w) (A := A) hr (fun h G => G.range) hd).run env M g he).use u c fun fv s1 k1 c1 p1 => ?_)
  subst p1
  rw [hs, backTo_plain]
  refine callWith_any (callee_type _) any_plain (Calls.evalArgs_plain (Calls.spliced_cons (((ha.run env M g he hv).up (u.trans (Keeps.upto k1))).use (Up.refl _) c1 fun v s2 k2 c2 p2 => Calls.spliced_nil ⟨Keeps.upto k2, ?_⟩))) c1.G
  obtain ⟨t, rfl⟩ := unI p2
  refine call_range_1 ?_
  have hsm : Builtin.Range.small 0 (n : Int) 1 = true := small_one (by decide) (by decide) (by omega) (by omega)
  refine iter_range_at (n := n) (Keeps.heap (Keeps.tr k1 k2) (Up.push _ _)) (c2.up (Up.push _ _) (Nat.le_succ_of_le (Nat.le_succ _))) (IsRange.new s2.heap 0 n 1 _ _ _) hsm (by rw [rangeSize_one]; split <;> omega) fun s3 J fp wr P St k c W => ?_
  refine hQ s3 J fp wr P St k c ?_
  have e : ((List.range n).map fun i : Nat => I (0 + (i : Int) * 1)) = (List.range n).map fun i : Nat => I i := by simp
  rw [e] at W
  exact W
end
end Mine
-- F7
namespace Mine

-- closures
noncomputable def clos (cells : List (Str × Addr)) : List (Str × NameKind) → List (Str × Addr) → List (Str × Addr)
  | [], acc => acc
  | (n, k) :: r, acc => clos cells r (if k == .free then (n, (cells.lookup n).getD 0) :: acc else acc)
theorem closureFor_go {env : Env} : ∀ (names : List (Str × NameKind)) (acc : List (Str × Addr)), (∀ x ∈ names, x.2 = .free → ∃ c, env.cells.lookup x.1 = some c) →
    (forIn names acc (fun x r => if (x.2 == NameKind.free) = true then (do let c ← cellOf env x.1; pure (ForInStep.yield ((x.1, c) :: r))) else pure (ForInStep.yield r)) : Sem (List (Str × Addr))) = pure (clos env.cells names acc)
  | [], acc, _ => rfl
  | (n, k) :: r, acc, h => by
    have hr : ∀ x ∈ r, x.2 = .free → ∃ c, env.cells.lookup x.1 = some c := fun x hx => h x (List.mem_cons_of_mem _ hx)
    rw [List.forIn_cons]
    unfold clos
    cases hk : (k == NameKind.free)
    · simp only [hk, Bool.false_eq_true, if_false, pure_bind]
      exact closureFor_go r acc hr
    · obtain ⟨c, hc⟩ := h (n, k) List.mem_cons_self (by simpa using hk)
      simp only [hk, if_true]
      have : cellOf env n = pure c := by unfold cellOf; rw [hc]
      simp only [this, pure_bind, hc, Option.getD_some]
      exact closureFor_go r _ hr
theorem closureFor_eq {env : Env} {scope : Scope} (h : ∀ x ∈ scope.names, x.2 = .free → ∃ c, env.cells.lookup x.1 = some c) : closureFor scope env = pure (clos env.cells scope.names []) := by
  have := closureFor_go scope.names [] h
  have e : closureFor scope env = (forIn scope.names [] (fun x r => if (x.2 == NameKind.free) = true then (do let c ← cellOf env x.1; pure (ForInStep.yield ((x.1, c) :: r))) else pure (ForInStep.yield r)) >>= fun r => pure r) := rfl
  rw [e, this, pure_bind]
theorem clos_val {cells : List (Str × Addr)} : ∀ {names : List (Str × NameKind)} {acc : List (Str × Addr)}, (∀ p ∈ acc, p.2 = (cells.lookup p.1).getD 0) → ∀ p ∈ clos cells names acc, p.2 = (cells.lookup p.1).getD 0
  | [], _, h, p, hp => h p hp
  | (n, k) :: r, acc, h, p, hp => by
    unfold clos at hp
    refine clos_val (names := r) (fun q hq => ?_) p hp
    split at hq
    · rcases List.mem_cons.mp hq with rfl | hq
      · rfl
      · exact h q hq
    · exact h q hq
theorem clos_mem {cells : List (Str × Addr)} {x : Str} : ∀ {names : List (Str × NameKind)} {acc : List (Str × Addr)}, ((x, .free) ∈ names ∨ x ∈ acc.map (·.1)) → x ∈ (clos cells names acc).map (·.1)
  | [], _, h => by simpa [clos] using h
  | (n, k) :: r, acc, h => by
    unfold clos
    refine clos_mem (names := r) ?_
    rcases h with h | h
    · rcases List.mem_cons.mp h with e | h
      · cases e; right; simp
      · exact .inl h
    · right
      split
      · exact List.mem_cons_of_mem _ h
      · exact h
theorem clos_free {cells : List (Str × Addr)} {x : Str} : ∀ {names : List (Str × NameKind)} {acc : List (Str × Addr)}, x ∈ (clos cells names acc).map (·.1) → (x, .free) ∈ names ∨ x ∈ acc.map (·.1)
  | [], _, h => .inr (by simpa [clos] using h)
  | (n, k) :: r, acc, h => by
    unfold clos at h
    rcases clos_free (names := r) h with h | h
    · exact .inl (List.mem_cons_of_mem _ h)
    · split at h
      · rename_i hk
        rcases List.mem_cons.mp h with e | h
        · left
          have e : x = n := e
          have hk : k = .free := by simpa using hk
          subst e hk
          exact List.mem_cons_self
        · exact .inr h
      · exact .inr h
theorem lookup_val {β : Type} {φ : Str → β} : ∀ {l : List (Str × β)} {x : Str}, (∀ p ∈ l, p.2 = φ p.1) → x ∈ l.map (·.1) → l.lookup x = some (φ x)
  | (k, v) :: r, x, h, hx => by
    rw [List.lookup_cons]
    cases hb : x == k with
    | true =>
      have e := beq_iff_eq.mp hb
      subst e
      exact congrArg some (h _ List.mem_cons_self)
    | false =>
      refine lookup_val (fun p hp => h p (List.mem_cons_of_mem _ hp)) ?_
      rcases List.mem_cons.mp hx with e | hx
      · have e : x = k := e
        rw [e] at hb; simp at hb
      · exact hx
theorem lookup_some_mem {β : Type} {l : List (Str × β)} {x : Str} {v : β} (h : l.lookup x = some v) : x ∈ l.map (·.1) := List.mem_map.mpr ⟨_, mem_of_lookup h, rfl⟩
theorem clos_lookup {cells : List (Str × Addr)} {names : List (Str × NameKind)} {x : Str} (h : (x, .free) ∈ names) : (clos cells names []).lookup x = some ((cells.lookup x).getD 0) :=
  lookup_val (φ := fun x => (cells.lookup x).getD 0) (clos_val (fun p hp => by simp at hp)) (clos_mem (.inl h))
noncomputable def ownC (n : Nat) : List (Str × NameKind) → List (Str × Addr)
  | [] => []
  | (x, k) :: r => if k == .cell then ownC (n + 1) r ++ [(x, n)] else ownC n r
theorem cellsFrom_own : ∀ (names : List (Str × NameKind)) (n : Nat) (acc : List (Str × Addr)), cellsFrom n names acc = ownC n names ++ acc
  | [], _, _ => rfl
  | (x, k) :: r, n, acc => by
    unfold cellsFrom ownC
    split
    · rw [cellsFrom_own r]; simp
    · exact cellsFrom_own r n acc
theorem ownC_names : ∀ (names : List (Str × NameKind)) (n m : Nat), (ownC n names).map (·.1) = (ownC m names).map (·.1)
  | [], _, _ => rfl
  | (x, k) :: r, n, m => by
    unfold ownC
    split
    · rw [List.map_append, List.map_append, ownC_names r (n + 1) (m + 1)]; rfl
    · exact ownC_names r n m
theorem ownC_cell : ∀ {names : List (Str × NameKind)} {n : Nat} {x : Str}, x ∈ (ownC n names).map (·.1) ↔ (x, .cell) ∈ names
  | [], _, _ => by simp [ownC]
  | (y, k) :: r, n, x => by
    unfold ownC
    split
    · rename_i hk
      have hk : k = .cell := by simpa using hk
      rw [List.map_append, List.mem_append, ownC_cell (names := r)]
      subst hk
      constructor
      · rintro (h | h)
        · exact List.mem_cons_of_mem _ h
        · have e : x = y := by simpa using h
          subst e; exact List.mem_cons_self
      · intro h
        rcases List.mem_cons.mp h with e | h
        · right; cases e; simp
        · exact .inl h
    · rename_i hk
      rw [ownC_cell (names := r)]
      constructor
      · exact List.mem_cons_of_mem _
      · intro h
        rcases List.mem_cons.mp h with e | h
        · exact absurd (by cases e; rfl) hk
        · exact h

/-- the names of a comprehension's block -/
noncomputable def rel (ns names : List (Str × NameKind)) : List (Str × NameKind) := names.map fun (n, k) => if (k == .free && ns.lookup n == some .cell) then (n, .cell) else (n, k)
theorem relabel_names {env : Env} {ns : List (Str × NameKind)} {scope : Scope} (he : EnvOk env ns) : (relabel scope env).names = rel ns scope.names := by
  unfold relabel rel Env.kindOf
  rw [he.n, he.k]
  simp

/-- the environment that a comprehension makes -/
noncomputable def cenvOf (scope : Scope) (env : Env) (C : Addr) : Env := { scope := relabel scope env, locals := C, globals := env.globals, cells := cellsFrom (C + 1) scope.names (clos env.cells scope.names []), qual := env.qual, func := none, code := env.code, frame := env.frame, builtins := env.builtins }
theorem wp_compEnv {M : Model} {A : Around} {E : Value → Shared → Prop} {scope : Scope} {env : Env} {s : Shared} {Q : Env → Shared → Prop}
    (h : Q { cenvOf scope env s.heap.objs.size with scope := scope } { s with heap := pushCells (s.heap.push { cls := .type "dict", data := .dict #[] }) scope.names }) :
    wpAny M A (newFunctionEnv scope env.globals (clos env.cells scope.names []) [] env.qual none .none (some env)) Q E s := by
  simp only [newFunctionEnv, Option.isSome_some, if_true]
  refine wpAny_bind (wpAny_alloc ?_)
  refine wpAny_bind (wpAny_layCells _ (fun name kind cells => by cases hkc : kind == NameKind.cell <;> simp [hkc]) _ _ _ _ ?_)
  rw [show ({ s with heap := s.heap.push { cls := .type "dict", data := .dict #[] } } : Shared).heap.objs.size = s.heap.objs.size + 1 from Heap.size_push ..]
  exact wpAny_bind (wpAny_pure (wpAny_pure h))
end Mine
-- F8
namespace Mine
noncomputable def compOk (ns names : List (Str × NameKind)) (keys : List Str) : Bool := decide ((names.map (·.1)).Nodup) && names.all fun x => x.2 != .free || ((ns.lookup x.1 == some .cell || ns.lookup x.1 == some .free) && keys.contains x.1)
noncomputable def cellVal (h : Heap) (c : Addr) : Option Value := match h.get? c with
  | some o => (match o.data with | .cell v => v | _ => none)
  | none => none
theorem cellVal_of {h : Heap} {c : Addr} {v : Option Value} (x : h.IsCell c v) : cellVal h c = v := by
  obtain ⟨o, e, hd⟩ := x
  unfold cellVal
  rw [e]; simp only [hd]
theorem lookup_nodup {β : Type} : ∀ {l : List (Str × β)} {x : Str} {v : β}, (l.map (·.1)).Nodup → (x, v) ∈ l → l.lookup x = some v
  | (k, u) :: r, x, v, hn, hm => by
    rw [List.map_cons, List.nodup_cons] at hn
    rw [List.lookup_cons]
    rcases List.mem_cons.mp hm with e | hm
    · cases e; simp
    · have hne : x ≠ k := fun e => hn.1 (List.mem_map.mpr ⟨_, hm, e⟩)
      rw [show (x == k) = false by simpa using hne]
      exact lookup_nodup hn.2 hm
theorem key_unique {β : Type} {l : List (Str × β)} {x : Str} {u v : β} (hn : (l.map (·.1)).Nodup) (h1 : (x, u) ∈ l) (h2 : (x, v) ∈ l) : u = v := by
  have := lookup_nodup hn h1
  rw [lookup_nodup hn h2] at this
  exact (Option.some.inj this).symm
theorem rel_map (ns names : List (Str × NameKind)) : (rel ns names).map (·.1) = names.map (·.1) := by
  unfold rel
  rw [List.map_map]
  refine List.map_congr_left fun x _ => ?_
  obtain ⟨n, k⟩ := x
  simp only [Function.comp]
  split <;> rfl
theorem rel_mem {ns names : List (Str × NameKind)} {x : Str} {k : NameKind} (h : (x, k) ∈ names) : (x, if (k == .free && ns.lookup x == some .cell) then .cell else k) ∈ rel ns names := by
  unfold rel
  refine List.mem_map.mpr ⟨_, h, ?_⟩
  simp only
  split <;> rfl
theorem contains_lookup {β : Type} : ∀ {l : List (Str × β)} {x : Str}, (l.map (·.1)).contains x = true → ∃ v, l.lookup x = some v
  | [], x, h => by simp at h
  | (k, v) :: r, x, h => by
    rw [List.lookup_cons]
    cases hb : x == k with
    | true => exact ⟨v, rfl⟩
    | false =>
      rw [List.map_cons, List.contains_cons, hb, Bool.false_or] at h
      exact contains_lookup h
theorem ownC_nodup : ∀ {names : List (Str × NameKind)} {n : Nat}, (names.map (·.1)).Nodup → ((ownC n names).map (·.1)).Nodup
  | [], _, _ => by simp [ownC]
  | (x, k) :: r, n, h => by
    rw [List.map_cons, List.nodup_cons] at h
    unfold ownC
    split
    · rw [List.map_append, List.nodup_append]
      refine ⟨ownC_nodup h.2, by simp, fun a ha b hb e => ?_⟩
      have hb : b = x := by simpa using hb
      subst e hb
      exact h.1 (List.mem_map.mpr ⟨_, ownC_cell.mp ha, rfl⟩)
    · exact ownC_nodup h.2
section
variable {w : World} {A : Around} {ns : List (Str × NameKind)} {σ : Sg} {M : List Addr} {g : Heap} {env : Env}
structure CompFr (w : World) (M : List Addr) (g : Heap) (ns names : List (Str × NameKind)) (σ : Sg) (cenv : Env) (oc : List Addr) (m : Str → Option Value) (h3 h4 : Heap) : Prop where
  ok : EnvOk cenv (rel ns names)
  F : FRM cenv oc m h4
  up : Up h3 h4
  fr : ∀ t ∈ cenv.locals :: oc, h3.get? t = none ∧ 106 < t ∧ t ∉ M
  vars : ∀ x d, (x, NameKind.free) ∈ names → σ.lookup x = some d → ∃ v, m x = some v ∧ IsD pg w M g d v
  sto : ∀ x, (x, NameKind.local) ∈ names ∨ (x, NameKind.cell) ∈ names → Sto cenv oc x
  cel : ∀ x c, cenv.cells.lookup x = some c → c ∈ oc ∨ ∃ o, g.get? c = some o
  knd : ∀ x, (x, NameKind.free) ∈ names → cenv.kindOf x = some .cell ∨ cenv.kindOf x = some .free
theorem comp_frees {names : List (Str × NameKind)} (he : EnvOk env ns) (hv : VarsOk w M g env σ) (hc : compOk ns names (σ.map (·.1)) = true) : ∀ x ∈ names, x.2 = .free → ∃ d c v, σ.lookup x.1 = some d ∧ env.cells.lookup x.1 = some c ∧ g.IsCell c (some v) ∧ IsD pg w M g d v := fun x hx hf => by
  unfold compOk at hc
  rw [Bool.and_eq_true] at hc
  have h1 := List.all_eq_true.mp hc.2 x hx
  rw [hf] at h1
  simp only [Bool.or_eq_true, Bool.and_eq_true, bne_self_eq_false, Bool.false_eq_true, false_or, beq_iff_eq] at h1
  obtain ⟨d, hd⟩ := contains_lookup h1.2
  obtain ⟨v, ha, hi⟩ := hv x.1 d hd
  rcases ha with ⟨k, _⟩ | ⟨_, c, hcl, hcv⟩
  · unfold Env.kindOf at k
    rw [he.n] at k
    rcases h1.1 with q | q <;> rw [q] at k <;> cases k
  · exact ⟨d, c, v, hd, hcl, hcv, hi⟩
theorem comp_frame {scope : Scope} {s3 : Shared} (he : EnvOk env ns) (hv : VarsOk w M g env σ) (u : Up g s3.heap) (c : CX w A M s3) (hsk : scope.kind = .function) (hc : compOk ns scope.names (σ.map (·.1)) = true) :
    ∃ oc m, CompFr w M g ns scope.names σ (cenvOf scope env s3.heap.objs.size) oc m s3.heap (pushCells (s3.heap.push { cls := .type "dict", data := .dict #[] }) scope.names) := by
  have hfr := comp_frees he hv hc
  have hnd : (scope.names.map (·.1)).Nodup := by
    unfold compOk at hc
    rw [Bool.and_eq_true] at hc
    exact of_decide_eq_true hc.1
  have hup : Up s3.heap (pushCells (s3.heap.push { cls := .type "dict", data := .dict #[] }) scope.names) := fun b o e => pushCells_keeps _ _ b o (Heap.get?_push_of_some _ e)
  have ok := cellsFrom_ok scope.names (s3.heap.push { cls := .type "dict", data := .dict #[] }) (s3.heap.objs.size + 1) [] ⟨fun _ _ hm => (nomatch hm), List.Pairwise.nil⟩ (by rw [Heap.size_push]; exact Nat.le_refl _)
  rw [Heap.size_push, cellsFrom_own, List.append_nil] at ok
  have hrn : ((rel ns scope.names).map (·.1)).Nodup := by rw [rel_map]; exact hnd
  have hond : ((ownC (s3.heap.objs.size + 1) scope.names).map (·.1)).Nodup := ownC_nodup hnd
  have hnames : (cenvOf scope env s3.heap.objs.size).scope.names = rel ns scope.names := relabel_names he
  have hkind : ∀ x k, (x, k) ∈ scope.names → (cenvOf scope env s3.heap.objs.size).kindOf x = some (if (k == .free && ns.lookup x == some .cell) then .cell else k) := fun x k hx => by
    unfold Env.kindOf
    rw [hnames]
    exact lookup_nodup hrn (rel_mem hx)
  have hkind' : ∀ x k, (cenvOf scope env s3.heap.objs.size).kindOf x = some k → ∃ k', (x, k') ∈ scope.names ∧ k = (if (k' == .free && ns.lookup x == some .cell) then .cell else k') := fun x k hx => by
    unfold Env.kindOf at hx
    rw [hnames] at hx
    have hm := lookup_some_mem hx
    rw [rel_map] at hm
    obtain ⟨⟨x', k'⟩, hp, rfl⟩ := List.mem_map.mp hm
    refine ⟨k', hp, ?_⟩
    have := lookup_nodup hrn (rel_mem (ns := ns) hp)
    rw [hx] at this
    exact Option.some.inj this
  have hcells : (cenvOf scope env s3.heap.objs.size).cells = ownC (s3.heap.objs.size + 1) scope.names ++ clos env.cells scope.names [] := cellsFrom_own _ _ _
  -- what lies in the cells
  have hlook : ∀ x a, (cenvOf scope env s3.heap.objs.size).cells.lookup x = some a → ((x, a) ∈ ownC (s3.heap.objs.size + 1) scope.names ∧ (x, NameKind.cell) ∈ scope.names) ∨ ((x, NameKind.free) ∈ scope.names ∧ env.cells.lookup x = some a) := fun x a e => by
    rw [hcells, List.lookup_append] at e
    cases e1 : (ownC (s3.heap.objs.size + 1) scope.names).lookup x with
    | some b =>
      rw [e1] at e
      obtain rfl : b = a := by simpa using e
      exact .inl ⟨mem_of_lookup e1, ownC_cell.mp (lookup_some_mem e1)⟩
    | none =>
      rw [e1, Option.none_or] at e
      have hf : (x, NameKind.free) ∈ scope.names := by
        rcases clos_free (lookup_some_mem e) with h | h
        · exact h
        · simp at h
      rw [clos_lookup hf] at e
      obtain ⟨d, c', v, _, h2, _⟩ := hfr _ hf rfl
      rw [h2] at e ⊢
      exact .inr ⟨hf, by simpa using e⟩
  have hown : ∀ x, (x, NameKind.cell) ∈ scope.names → ∃ a, (x, a) ∈ ownC (s3.heap.objs.size + 1) scope.names ∧ (cenvOf scope env s3.heap.objs.size).cells.lookup x = some a := fun x hx => by
    obtain ⟨⟨x', a⟩, hp, rfl⟩ := List.mem_map.mp (ownC_cell (n := s3.heap.objs.size + 1).mpr hx)
    refine ⟨a, hp, ?_⟩
    rw [hcells, List.lookup_append, lookup_nodup hond hp]; rfl
  have hfree : ∀ x, (x, NameKind.free) ∈ scope.names → ∃ a, env.cells.lookup x = some a ∧ (cenvOf scope env s3.heap.objs.size).cells.lookup x = some a := fun x hx => by
    obtain ⟨d, a, v, _, h2, _⟩ := hfr _ hx rfl
    refine ⟨a, h2, ?_⟩
    rw [hcells, List.lookup_append]
    cases e1 : (ownC (s3.heap.objs.size + 1) scope.names).lookup x with
    | some b =>
      have := key_unique hnd hx (ownC_cell.mp (lookup_some_mem e1))
      cases this
    | none => rw [Option.none_or, clos_lookup hx, h2]; rfl
  have hnone : ∀ x, (x, NameKind.local) ∈ scope.names → (cenvOf scope env s3.heap.objs.size).cells.lookup x = none := fun x hx => by
    cases e : (cenvOf scope env s3.heap.objs.size).cells.lookup x with
    | none => rfl
    | some a =>
      rcases hlook x a e with ⟨_, h⟩ | ⟨h, _⟩ <;> have := key_unique hnd hx h <;> cases this
  let h4 := pushCells (s3.heap.push { cls := .type "dict", data := .dict #[] }) scope.names
  let m : Str → Option Value := fun x => match (cenvOf scope env s3.heap.objs.size).cells.lookup x with | some a => cellVal h4 a | none => none
  refine ⟨(ownC (s3.heap.objs.size + 1) scope.names).map (·.2), m, ⟨hnames, hsk, he.g, he.b⟩, ⟨⟨fun _ => none, (Heap.Ns.new s3.heap (.type "dict")).keeps (pushCells_keeps _ _), ?_⟩, ?_, ?_, ?_, ?_⟩, hup, ?_, ?_, ?_, ?_, ?_⟩
  · intro x hx
    obtain ⟨k', hk, e⟩ := hkind' x _ hx
    split at e
    · cases e
    · subst e
      show none = m x
      simp only [m, hnone x hk]
  · intro x a hk e
    show h4.IsCell a (m x)
    simp only [m, e]
    rcases hlook x a e with ⟨h, _⟩ | ⟨h, e'⟩
    · rw [cellVal_of (ok.empty _ _ h).1]; exact (ok.empty _ _ h).1
    · obtain ⟨d, a', v, _, h2, h3, _⟩ := hfr _ h rfl
      rw [e'] at h2; cases h2
      have := (h3.keeps (u.trans hup))
      rw [cellVal_of this]; exact this
  · intro x y a ha ex ey
    obtain ⟨⟨z, a'⟩, hp, rfl⟩ := List.mem_map.mp ha
    have key : ∀ x, (cenvOf scope env s3.heap.objs.size).cells.lookup x = some a' → x = z := fun x ex => by
      rcases hlook x a' ex with ⟨h, _⟩ | ⟨h, e'⟩
      · exact name_of_addr ok.apart h hp
      · obtain ⟨d, a'', v, _, h2, h3, _⟩ := hfr _ h rfl
        rw [e'] at h2; cases h2
        have h5 := (ok.empty _ _ hp).2
        have h6 := (h3.keeps u).lt
        exact absurd h6 (Nat.not_lt.mpr (Nat.le_of_lt h5))
    rw [key x ex, key y ey]
  · intro x hx hne
    cases e : (cenvOf scope env s3.heap.objs.size).cells.lookup x with
    | some a => exact ⟨a, rfl⟩
    | none => exact absurd (by simp only [m, e]) hne
  · intro a ha
    obtain ⟨⟨z, a'⟩, hp, rfl⟩ := List.mem_map.mp ha
    have hz := ownC_cell.mp (List.mem_map.mpr ⟨_, hp, rfl⟩)
    obtain ⟨a2, h2, h3⟩ := hown z hz
    have : a2 = a' := by
      have q := lookup_nodup hond hp
      rw [lookup_nodup hond h2] at q
      exact Option.some.inj q
    subst this
    refine ⟨Nat.lt_of_lt_of_le c.G.size (Nat.le_of_lt (ok.empty _ _ hp).2), z, ?_, h3⟩
    rw [hkind z _ hz]; rfl
  · intro t ht
    have hge : s3.heap.objs.size ≤ t := by
      rcases List.mem_cons.mp ht with rfl | ht
      · exact Nat.le_refl _
      · obtain ⟨⟨z, a'⟩, hp, rfl⟩ := List.mem_map.mp ht
        exact Nat.le_of_lt (ok.empty _ _ hp).2
    exact ⟨fresh_none hge, Nat.lt_of_lt_of_le c.G.size hge, c.new hge⟩
  · intro x d hx hd
    obtain ⟨d', a, v, h1, h2, h3, h4'⟩ := hfr _ hx rfl
    rw [hd] at h1; cases h1
    obtain ⟨a', e1, e2⟩ := hfree x hx
    rw [h2] at e1; cases e1
    refine ⟨v, ?_, h4'⟩
    show m x = some v
    simp only [m, e2]
    exact cellVal_of (h3.keeps (u.trans hup))
  · rintro x (hx | hx)
    · left; rw [hkind x _ hx]; rfl
    · right
      obtain ⟨a, h1, h2⟩ := hown x hx
      exact ⟨by rw [hkind x _ hx]; rfl, a, h2, List.mem_map.mpr ⟨_, h1, rfl⟩⟩
  · intro x a e
    rcases hlook x a e with ⟨h, _⟩ | ⟨h, e'⟩
    · exact .inl (List.mem_map.mpr ⟨_, h, rfl⟩)
    · obtain ⟨d, a', v, _, h2, ⟨o, h3, _⟩, _⟩ := hfr _ h rfl
      rw [e'] at h2; cases h2
      exact .inr ⟨o, h3⟩
  · intro x hx
    rw [hkind x _ hx]
    split
    · exact .inl rfl
    · exact .inr rfl
end
end Mine
-- F9
namespace Mine

/-- a target by its names' kinds -/
inductive TgtS (names : List (Str × NameKind)) : Expr → D → Sg → Prop
  | name {x p d} : ((x, NameKind.local) ∈ names ∨ (x, NameKind.cell) ∈ names) → TgtS names (.Name x p) d [(x, d)]
  | pair {x y p q r k d e} : ((x, NameKind.local) ∈ names ∨ (x, NameKind.cell) ∈ names) → ((y, NameKind.local) ∈ names ∨ (y, NameKind.cell) ∈ names) → x ≠ y → TgtS names (.Tuple [.Name x p, .Name y q] k r) (T [d, e]) [(x, .d d), (y, .d e)]
  | three {x y z p q r t k d e f} : ((x, NameKind.local) ∈ names ∨ (x, NameKind.cell) ∈ names) → ((y, NameKind.local) ∈ names ∨ (y, NameKind.cell) ∈ names) → ((z, NameKind.local) ∈ names ∨ (z, NameKind.cell) ∈ names) → x ≠ y → x ≠ z → y ≠ z →
      TgtS names (.Tuple [.Name x p, .Name y q, .Name z t] k r) (T [d, e, f]) [(x, .d d), (y, .d e), (z, .d f)]
theorem TgtS.to {names : List (Str × NameKind)} {env : Env} {oc : List Addr} {t : Expr} {d : D} {β : Sg} (h : TgtS names t d β) (hs : ∀ x, (x, NameKind.local) ∈ names ∨ (x, NameKind.cell) ∈ names → Sto env oc x) : Tgt env oc t d β := by
  cases h with
  | name a => exact .name (hs _ a)
  | pair a b c => exact .pair (hs _ a) (hs _ b) c
  | three a b c d e f => exact .three (hs _ a) (hs _ b) (hs _ c) d e f
theorem TgtS.keys {names : List (Str × NameKind)} {t : Expr} {d : D} {β : Sg} (h : TgtS names t d β) : ∀ x ∈ β.map (·.1), (x, NameKind.local) ∈ names ∨ (x, NameKind.cell) ∈ names := by
  cases h with
  | name a => intro x hx; simp at hx; subst hx; exact a
  | pair a b c => intro x hx; simp at hx; rcases hx with rfl | rfl <;> assumption
  | three a b c d e f => intro x hx; simp at hx; rcases hx with rfl | rfl | rfl <;> assumption
abbrev testsTree (ifs : List Expr) (env : Env) : Sem Bool := forIn ifs true fun c r => if r = true then do let ok ← isTrue c env (eval c env); pure (ForInStep.yield ok) else pure (ForInStep.yield r)
structure TTs (w : World) (A : Around) (ns : List (Str × NameKind)) (σ : Sg) (ifs : List Expr) (b : Bool) : Prop where
  run : ∀ env M g, EnvOk env ns → VarsOk w M g env σ → TR w A M g (testsTree ifs env) fun _ c => c = b
section
variable {w : World} {A : Around} {ns : List (Str × NameKind)} {σ : Sg} {M : List Addr} {g : Heap} {env : Env}
theorem tts_nil : TTs w A ns σ [] true := .mk <| fun env M g _ _ s _ _ => wpAny_tests_nil ⟨Keeps.rfl s, rfl⟩
theorem tts_one {c : Expr} {b : Bool} (h : TT w A ns σ c b) : TTs w A ns σ [c] b := .mk <| fun env M g he hv s u cx => wpAny_tests_one (h.run env M g he hv s u cx)

theorem varsOk_of {oc : List Addr} {m : Str → Option Value} {h : Heap} {β : Sg} (F : FRM env oc m h) (hk : ∀ q ∈ β, env.kindOf q.1 = some .local ∨ env.kindOf q.1 = some .cell ∨ env.kindOf q.1 = some .free) (hb : Bnd w M m h β) : VarsOk w M h env β := fun x d e => by
  have hm := mem_of_lookup e
  obtain ⟨v, h1, h2⟩ := hb _ hm
  refine ⟨v, ?_, h2⟩
  rcases hk _ hm with k | k
  · obtain ⟨ml, hn, hml⟩ := F.ns
    exact .inl ⟨k, ml, hn, by rw [hml _ k]; exact h1⟩
  · obtain ⟨c, hc⟩ := F.lk x k (by rw [h1]; simp)
    refine .inr ⟨k, c, hc, ?_⟩
    have := F.cl x c (by rcases k with k | k <;> rw [k] <;> decide) hc
    rwa [h1] at this

/-- a turn, and what it does with an item that is taken -/
noncomputable def Turn (w : World) (A : Around) (R : Result → Shared → Prop) (target : Expr) (ifs : List Expr) (emit : Sem Unit) (it : Value) (env : Env) (I : Nat → Shared → Prop) : Prop :=
  ∀ n s, I n s → wpAny (model pg w) A (pyNext it) (fun r s₁ => match r with
      | none => R (.ok .next) s₁
      | some v => wpAny (model pg w) A (letOwnedTupleGo target it v) (fun _ s₁' => wpAny (model pg w) A (assign target env v) (fun _ s₂ =>
          wpAny (model pg w) A (testsTree ifs env) (fun ok s₃ =>
            if ok = true then wpAny (model pg w) A emit (fun _ s₅ => ∃ m, m < n ∧ I m s₅) (fun _ _ => False) s₃
            else ∃ m, m < n ∧ I m s₃) (fun _ _ => False) s₂) (fun _ _ => False) s₁') (fun _ _ => False) s₁) (fun _ _ => False) s
noncomputable def emitL (acc : Value) (elt : Expr) (env : Env) : Sem Unit := do let _ ← call (.builtin "list.append") [acc, ← eval elt env]
theorem compLoop_list {R : Result → Shared → Prop} {s : Shared} {elt target iter : Expr} {ifs : List Expr} {scope : Scope} {pos : Pos} {it acc : Value} {env : Env} (I : Nat → Shared → Prop)
    (turn : Turn w A R target ifs (emitL acc elt env) it env I) (n : Nat) (h : I n s) :
    codeAny (model pg w) A (.compLoop (.ListComp elt [⟨target, iter, ifs, 0⟩] scope pos) 0 it acc env) R s := by
  refine codeAny_loop rfl I (fun n s hI => ?_) n h
  show wpAny _ A ((compTurn (.ListComp elt [⟨target, iter, ifs, 0⟩] scope pos) 0 it acc env).onRaise (fun x => do noteFrame x env; theTreesLotGoes x)) _ _ s
  refine wpAny_noted ?_
  rw [compTurn_list]
  refine wpAny_bind (wpAny_standAt (wpAny_bind (wpAny_mono (turn n s hI) (fun r s₁ h₁ => ?_) fun _ _ h' => h'.elim)))
  cases r with
  | none => exact wpAny_pure h₁
  | some v =>
    refine wpAny_bind (wpAny_mono h₁ (fun _ s₁' h₁' => ?_) fun _ _ h' => h'.elim)
    refine wpAny_bind (wpAny_mono h₁' (fun _ s₂ h₂ => wpAny_bind (wpAny_mono h₂ (fun ok s₃ h₃ => ?_) fun _ _ h' => h'.elim)) fun _ _ h' => h'.elim)
    cases ok with
    | false => exact wpAny_pure ⟨rfl, h₃⟩
    | true => exact wpAny_bind (wpAny_mono (show wpAny _ A (emitL acc elt env) _ _ s₃ from h₃) (fun _ s₅ h₅ => wpAny_pure ⟨rfl, h₅⟩) fun _ _ h' => h'.elim)
noncomputable def emitD (D : Addr) (kx vx : Expr) (env : Env) : Sem Unit := do
  let kv ← eval kx env
  let vv ← holding [kv] (eval vx env)
  standAt { kx.pos with endLine := vx.pos.endLine, endCol := vx.pos.endCol }
  holding [kv, vv] (dictSet D kv vv)
theorem compLoop_dict {R : Result → Shared → Prop} {s : Shared} {kx vx target iter : Expr} {ifs : List Expr} {scope : Scope} {pos : Pos} {it : Value} {D : Addr} {env : Env} (I : Nat → Shared → Prop)
    (turn : Turn w A R target ifs (emitD D kx vx env) it env I) (n : Nat) (h : I n s) :
    codeAny (model pg w) A (.compLoop (.DictComp kx vx [⟨target, iter, ifs, 0⟩] scope pos) 0 it (.ref D) env) R s := by
  refine codeAny_loop rfl I (fun n s hI => ?_) n h
  show wpAny _ A ((compTurn (.DictComp kx vx [⟨target, iter, ifs, 0⟩] scope pos) 0 it (.ref D) env).onRaise (fun x => do noteFrame x env; theTreesLotGoes x)) _ _ s
  refine wpAny_noted ?_
  rw [compTurn_dict]
  refine wpAny_bind (wpAny_standAt (wpAny_bind (wpAny_mono (turn n s hI) (fun r s₁ h₁ => ?_) fun _ _ h' => h'.elim)))
  cases r with
  | none => exact wpAny_pure h₁
  | some v =>
    refine wpAny_bind (wpAny_mono h₁ (fun _ s₁' h₁' => ?_) fun _ _ h' => h'.elim)
    refine wpAny_bind (wpAny_mono h₁' (fun _ s₂ h₂ => wpAny_bind (wpAny_mono h₂ (fun ok s₃ h₃ => ?_) fun _ _ h' => h'.elim)) fun _ _ h' => h'.elim)
    cases ok with
    | false => exact wpAny_pure ⟨rfl, h₃⟩
    | true => exact wpAny_bind (wpAny_mono (show wpAny _ A (emitD D kx vx env) _ _ s₃ from h₃) (fun _ s₅ h₅ => wpAny_pure ⟨rfl, h₅⟩) fun _ _ h' => h'.elim)

/-- what stands at the top of a turn, behind i items -/
structure CI (w : World) (A : Around) (M : List Addr) (s4 : Shared) (a : Addr) (cenv : Env) (oc wr : List Addr) (St : Nat → Heap → Prop) (σ' : Sg) (i : Nat) (s' : Shared) : Prop where
  ch : Chg (a :: cenv.locals :: oc ++ wr) s4 s'
  cx : CX w A (a :: cenv.locals :: wr ++ M) s'
  st : St i s'.heap
  fr : ∃ m, FRM cenv oc m s'.heap ∧ Bnd w (a :: cenv.locals :: wr ++ M) m s'.heap σ'

theorem stays_of_frame {M T : List Addr} {h h' : Heap} (c : ChgH T h h') (ht : ∀ t ∈ T, t ∈ M ∨ ∀ o, h.get? t = some o → ¬ Kept o) : Stays M M h h' := c.stays ht

/-- one step of a comprehension's loop: the item drawn and bound -/
theorem comp_step {s s2 s4 s' : Shared} {J a : Addr} {fp wr oc : List Addr} {P : Nat → Value → Prop} {St : Nat → Heap → Prop} {ds : List D} {σ' β : Sg} {target : Expr} {cenv : Env} {names : List (Str × NameKind)} {i : Nat} {d : D}
    {K : Shared → Prop} (W : Wk w A M s s2 J fp wr P St ds) (h24 : Up s2.heap s4.heap) (hfr : ∀ t ∈ a :: cenv.locals :: oc, s2.heap.get? t = none ∧ 106 < t ∧ t ∉ M) (hk : cenv.scope.kind = .function)
    (hsto : ∀ x, (x, NameKind.local) ∈ names ∨ (x, NameKind.cell) ∈ names → Sto cenv oc x) (hdis : ∀ q ∈ σ', ¬ ((q.1, NameKind.local) ∈ names ∨ (q.1, NameKind.cell) ∈ names)) (hcw : ∀ x c, cenv.cells.lookup x = some c → c ∉ wr)
    (C : CI w A M s4 a cenv oc wr St σ' i s') (hi : i < ds.length) (hd : ds[i]? = some d) (ht : TgtS names target d β)
    (h : ∀ s6, CI w A M s4 a cenv oc wr St σ' (i + 1) s6 → (∃ m, FRM cenv oc m s6.heap ∧ Bnd w (a :: cenv.locals :: wr ++ M) m s6.heap (β ++ σ')) → Stays (a :: cenv.locals :: wr ++ M) (a :: cenv.locals :: wr ++ M) s'.heap s6.heap →
      Chg (cenv.locals :: oc ++ wr) s' s6 → K s6) :
    wpAny (model pg w) A (pyNext (.ref J)) (fun r s₁ => match r with
      | none => False
      | some v => wpAny (model pg w) A (letOwnedTupleGo target (.ref J) v) (fun _ s₁' => wpAny (model pg w) A (assign target cenv v) (fun _ s₂ => K s₂) (fun _ _ => False) s₁') (fun _ _ => False) s₁) (fun _ _ => False) s' := by
  obtain ⟨m, F, Bσ⟩ := C.fr
  have hwn : ∀ t ∈ wr, t ∉ a :: cenv.locals :: oc := fun t ht q => by
    obtain ⟨o, e⟩ := W.fl t (W.W.sub t ht)
    have := (hfr t q).1
    rw [e] at this; cases this
  refine wpAny_mono (wpAny_toks (Q := fun r s5 => ∃ v, r = some v ∧ P i v ∧ St (i + 1) s5.heap ∧ Chg wr s' s5) (E := fun _ _ => False) (W.W.item i s' _ _ hi C.st fun v h' tk hp hst hch => ⟨v, rfl, hp, hst, h', tk, rfl, hch⟩)) (fun r s5 q => ?_) fun _ _ q => q.2.elim
  obtain ⟨tk5, v, rfl, hp, hst5, ch5⟩ := q
  show wpAny _ _ _ _ _ _
  -- the drawn state
  have cx5 : CX w A (a :: cenv.locals :: wr ++ M) s5 := C.cx.chg ch5 (fun t ht => ⟨(W.wn t ht).2.2, fun _ => let ⟨o, e, _⟩ := W.sw (i + 1) _ hst5 t ht; ⟨o, e⟩⟩) tk5
  have F5 : FRM cenv oc m s5.heap := F.chg ch5.h (fun q => hwn _ q (by simp)) hcw
  have st5 : Stays (a :: cenv.locals :: wr ++ M) (a :: cenv.locals :: wr ++ M) s'.heap s5.heap := ch5.h.stays fun t ht => .inl (by simp [ht])
  -- the item, there
  obtain ⟨d', hd', hv⟩ := W.vals i v hi hp
  rw [hd] at hd'; cases hd'
  have hv5 : IsD pg w (a :: cenv.locals :: wr ++ M) s5.heap d v := hv.stays fun b o hb hkp e => by
    have hbw : b ∉ wr := fun q => by
      obtain ⟨o', e', hn⟩ := W.sw 0 _ W.st b q
      rw [e] at e'; cases e'; exact hn hkp
    have hbf : b ∉ a :: cenv.locals :: oc := fun q => by rw [(hfr b q).1] at e; cases e
    refine ⟨ch5.h b o hbw (C.ch.h b o (fun q => ?_) (h24 b o e)), fun q => ?_⟩
    · rcases List.mem_append.mp q with q | q
      · exact hbf q
      · exact hbw q
    · simp only [List.cons_append, List.mem_cons, List.mem_append] at q
      rcases q with rfl | rfl | q | q
      · exact hbf (by simp)
      · exact hbf (by simp)
      · exact hbw q
      · exact hb q
  have fin : ∀ (Q : Unit → Shared → Prop), (∀ s6, K s6 → Q () s6) → wpAny (model pg w) A (assign target cenv v) Q (fun _ _ => False) s5 := fun Q hQ => by
    refine wp_assign (ht.to hsto) F5 hk (by simp) cx5 hv5 fun s6 m6 F6 ch6 cx6 hm6 hb6 => hQ s6 (h s6 ⟨?_, cx6, ?_, m6, F6, ?_⟩ ⟨m6, F6, ?_⟩ ?_ ?_)
    · refine (C.ch.tr ch5 fun t ht => .inl (by simp [ht])).tr ch6 fun t ht => .inl ?_
      simp only [List.mem_cons, List.cons_append, List.mem_append] at ht ⊢
      rcases ht with ht | ht <;> simp [ht]
    · refine W.W.frame _ _ _ hst5 fun b hb o e => ch6.h b o (fun q => ?_) e
      obtain ⟨o', e'⟩ := W.fl b hb
      have := (hfr b (List.mem_cons_of_mem _ q)).1
      rw [e'] at this; cases this
    · intro q hq
      obtain ⟨v', e1, e2⟩ := Bσ q hq
      exact ⟨v', by rw [hm6 _ (fun hx => hdis q hq (ht.keys _ hx))]; exact e1, (e2.stays st5).stays (F5.stays ch6.h (by simp))⟩
    · intro q hq
      rcases List.mem_append.mp hq with hq | hq
      · exact hb6 q hq
      · obtain ⟨v', e1, e2⟩ := Bσ q hq
        exact ⟨v', by rw [hm6 _ (fun hx => hdis q hq (ht.keys _ hx))]; exact e1, (e2.stays st5).stays (F5.stays ch6.h (by simp))⟩
    · intro b o hb hkp e
      obtain ⟨e1, _⟩ := st5 b o hb hkp e
      exact F5.stays ch6.h (by simp) b o hb hkp e1
    · refine (ch5.mono fun t ht => .inl (by simp [ht])).tr ch6 fun t ht => .inl ?_
      simp only [List.mem_cons, List.cons_append, List.mem_append] at ht ⊢
      rcases ht with ht | ht <;> simp [ht]
  cases ht with
  | name _ => exact wpAny_of_eq (a := ()) rfl (fin _ fun _ h => h)
  | pair _ _ _ => exact W.own i v _ _ _ s5 _ _ hp hst5 (fin _ fun _ h => h)
  | three _ _ _ _ _ _ => exact W.own i v _ _ _ s5 _ _ hp hst5 (fin _ fun _ h => h)

/-- the whole of a comprehension's block, from the iterator on; Acc: what the accumulator holds behind i items -/
theorem comp_core {s s2 : Shared} {J : Addr} {fp wr : List Addr} {P : Nat → Value → Prop} {St : Nat → Heap → Prop} {e target : Expr} {ifs : List Expr} {scope : Scope} {ds : List D} {accO : Obj} {newAcc : Sem Value} (emit : Addr → Env → Sem Unit) (Acc : Addr → List Addr → Nat → Heap → Prop) (β : D → Sg) (p : D → Bool) (σ' : Sg) {RR : Value → Addr → Result → Shared → Prop} {E : Value → Shared → Prop}
    (he : EnvOk env ns) (hv : VarsOk w M g env σ) (u : Up g s.heap) (k2 : Keeps s s2) (c2 : CX w A M s2) (W : Wk w A M s s2 J fp wr P St ds)
    (hsk : scope.kind = .function) (hc : compOk ns scope.names (σ.map (·.1)) = true)
    (hσ : ∀ q ∈ σ', (q.1, NameKind.free) ∈ scope.names ∧ σ.lookup q.1 = some q.2)
    (ht : ∀ d ∈ ds, TgtS scope.names target d (β d))
    (hif : ∀ d ∈ ds, TTs w A (rel ns scope.names) (β d ++ σ') ifs (p d))
    (hnew : ∀ (s : Shared) (Q : Value → Shared → Prop) (E : Value → Shared → Prop), Q (.ref s.heap.objs.size) { s with heap := s.heap.push accO } → wpAny (model pg w) A newAcc Q E s) (hfo : accO.isFreed = false)
    (hacc0 : ∀ a M' h, h.get? a = some accO → Acc a M' 0 h)
    (hacc : ∀ a M' i h h', a ∈ M' → Acc a M' i h → Stays M' M' h h' → (∀ o, h.get? a = some o → h'.get? a = some o) → Acc a M' i h')
    (hskip : ∀ a M' i d h, ds[i]? = some d → p d = false → Acc a M' i h → Acc a M' (i + 1) h)
    (hemit : ∀ a M' i d cenv s, ds[i]? = some d → p d = true → EnvOk cenv (rel ns scope.names) → VarsOk w M' s.heap cenv (β d ++ σ') → CX w A M' s → a ∈ M' → Acc a M' i s.heap →
      wpAny (model pg w) A (emit a cenv) (fun _ s' => Chg [a] s s' ∧ Acc a M' (i + 1) s'.heap ∧ ∃ o, s'.heap.get? a = some o) (fun _ _ => False) s)
    (hloop : ∀ a cenv (R : Result → Shared → Prop) (I : Nat → Shared → Prop) n s, Turn w A R target ifs (emit a cenv) (.ref J) cenv I → I n s → codeAny (model pg w) A (.compLoop e 0 (.ref J) (.ref a) cenv) R s)
    (hstart : ∀ a cenv (R : Result → Shared → Prop) s, codeAny (model pg w) A (.compLoop e 0 (.ref J) (.ref a) cenv) R s → wpAny (model pg w) A (pyIter (.ref J)) (fun it' s' => codeAny (model pg w) A (.compLoop e 0 it' (.ref a) cenv) R s') (notedBy (model pg w) A cenv fun x s' => R (.error x) s') s →
      codeAny (model pg w) A (.compStart e 0 (.ref J) (.ref a) cenv) R s)
    (hRR : ∀ a C s', Keeps s s' → CX w A (C :: M) s' → s.heap.get? C = none → C ∉ M → (∃ M', a ∈ M' ∧ (∀ t ∈ C :: M, t ∈ M') ∧ Acc a M' ds.length s'.heap) → a ∉ C :: M → 106 < a → (∃ m, s'.heap.Ns C m) → RR (.ref a) C (.ok .next) s') :
    wpAny (model pg w) A newAcc (fun acc s₃ => wpAny (model pg w) A (newFunctionEnv scope env.globals (clos env.cells scope.names []) [] env.qual none .none (some env)) (fun cenv s₄ =>
      codeAny (model pg w) A (.compStart e 0 (.ref J) acc { cenv with scope := relabel scope env }) (RR acc cenv.locals) s₄) E s₃) E s2 := by
  refine hnew _ _ _ (wp_compEnv ?_)
  generalize hs3 : ({ s2 with heap := s2.heap.push accO } : Shared) = s3
  have k3 : Keeps s2 s3 := hs3 ▸ Keeps.push (Keeps.rfl s2) _
  have c3 : CX w A M s3 := c2.up (Keeps.upto k3) (by rw [← hs3]; exact Nat.le_refl _)
  have hsz : s3.heap.objs.size = s2.heap.objs.size + 1 := by rw [← hs3]; exact Heap.size_push ..
  obtain ⟨oc, m, Fr⟩ := comp_frame (σ := σ) he hv ((u.trans (Keeps.upto k2)).trans (Keeps.upto k3)) c3 hsk hc
  generalize hs4 : ({ s3 with heap := pushCells (s3.heap.push { cls := .type "dict", data := .dict #[] }) scope.names } : Shared) = s4
  have hh4 : pushCells (s3.heap.push { cls := .type "dict", data := .dict #[] }) scope.names = s4.heap := by rw [← hs4]
  rw [hh4] at Fr
  have hloc : (cenvOf scope env s3.heap.objs.size).locals = s3.heap.objs.size := rfl
  show codeAny _ _ (.compStart e 0 (.ref J) (.ref s2.heap.objs.size) (cenvOf scope env s3.heap.objs.size)) (RR (.ref s2.heap.objs.size) (cenvOf scope env s3.heap.objs.size).locals) s4
  generalize hcv : cenvOf scope env s3.heap.objs.size = cenv at Fr hloc
  have k4 : Keeps s3 s4 := ⟨s4.heap, s4.toks, by rw [← hs4], Fr.up⟩
  have tk4 : s3.toks ≤ s4.toks := by rw [← hs4]; exact Nat.le_refl _
  have c4 : CX w A M s4 := c3.up (Keeps.upto k4) tk4
  generalize ha : s2.heap.objs.size = a at hsz
  have ha2 : s2.heap.get? a = none := fresh_none (by rw [ha]; exact Nat.le_refl _)
  have hpl3 : s3.heap.get? a = some accO := by rw [← hs3, ← ha]; exact Heap.get?_push_size _ hfo
  have hpl4 : s4.heap.get? a = some accO := Keeps.upto k4 _ _ hpl3
  have ha3 : ∃ o, s3.heap.get? a = some o := ⟨_, hpl3⟩
  have hfr : ∀ t ∈ a :: cenv.locals :: oc, s2.heap.get? t = none ∧ 106 < t ∧ t ∉ M := fun t ht => by
    rcases List.mem_cons.mp ht with rfl | ht
    · exact ⟨ha2, ha ▸ c2.G.size, c2.new (by rw [ha]; exact Nat.le_refl _)⟩
    · obtain ⟨h1, h2, h3⟩ := Fr.fr t ht
      exact ⟨none_down (Keeps.upto k3) h1, h2, h3⟩
  have hane : ∀ t ∈ cenv.locals :: oc, t ≠ a := fun t ht e => by
    subst e
    obtain ⟨o, e⟩ := ha3
    rw [(Fr.fr _ ht).1] at e; cases e
  have hawr : a ∉ wr := fun q => by
    obtain ⟨o, e⟩ := W.fl a (W.W.sub a q)
    rw [ha2] at e; cases e
  have hnd : (scope.names.map (·.1)).Nodup := by
    unfold compOk at hc
    rw [Bool.and_eq_true] at hc
    exact of_decide_eq_true hc.1
  have hdis : ∀ q ∈ σ', ¬ ((q.1, NameKind.local) ∈ scope.names ∨ (q.1, NameKind.cell) ∈ scope.names) := fun q hq h => by
    have h1 := (hσ q hq).1
    rcases h with h | h <;> have := key_unique hnd h1 h <;> cases this
  have hcw : ∀ x c, cenv.cells.lookup x = some c → c ∉ wr := fun x c e q => by
    rcases Fr.cel x c e with h | ⟨o, h⟩
    · obtain ⟨o, e'⟩ := W.fl c (W.W.sub c q)
      rw [(hfr c (by simp [h])).1] at e'; cases e'
    · have := u _ _ h
      rw [(W.wn c q).1] at this; cases this
  have st4 : St 0 s4.heap := W.W.frame _ _ _ W.st fun b _ o e => Keeps.upto k4 _ _ (Keeps.upto k3 _ _ e)
  have c4' : CX w A (a :: cenv.locals :: wr ++ M) s4 := ⟨c4.hh, c4.dp, c4.un, fun b hb => by
    simp only [List.cons_append, List.mem_cons, List.mem_append] at hb
    rcases hb with rfl | rfl | hb | hb
    · exact ⟨(hfr _ (by simp)).2.1, ⟨_, hpl4⟩⟩
    · exact ⟨(hfr _ (by simp)).2.1, Fr.F.live _ (by simp)⟩
    · obtain ⟨o, e, _⟩ := W.sw 0 _ st4 b hb
      exact ⟨(W.wn b hb).2.2, o, e⟩
    · exact c4.live b hb, c4.base, c4.tk⟩
  have hB4 : Bnd w (a :: cenv.locals :: wr ++ M) m s4.heap σ' := fun q hq => by
    obtain ⟨h1, h2⟩ := hσ q hq
    obtain ⟨v, h3, h4⟩ := Fr.vars q.1 q.2 h1 h2
    refine ⟨v, h3, h4.stays fun b o hb _ e => ⟨Keeps.upto k4 _ _ (Keeps.upto k3 _ _ (Keeps.upto k2 _ _ (u _ _ e))), fun q => ?_⟩⟩
    simp only [List.cons_append, List.mem_cons, List.mem_append] at q
    have hs2 := Keeps.upto k2 _ _ (u _ _ e)
    rcases q with rfl | rfl | q | q
    · rw [ha2] at hs2; cases hs2
    · rw [(hfr _ (by simp)).1] at hs2; cases hs2
    · have := u _ _ e
      rw [(W.wn b q).1] at this; cases this
    · exact hb q
  have C4 : CI w A M s4 a cenv oc wr St σ' 0 s4 := ⟨Chg.rfl _, c4', st4, m, Fr.F, hB4⟩
  have kinds : ∀ d ∈ ds, ∀ q ∈ β d ++ σ', cenv.kindOf q.1 = some .local ∨ cenv.kindOf q.1 = some .cell ∨ cenv.kindOf q.1 = some .free := fun d hd q hq => by
    rcases List.mem_append.mp hq with hq | hq
    · rcases Fr.sto q.1 ((ht d hd).keys _ (List.mem_map.mpr ⟨_, hq, rfl⟩)) with h | ⟨h, _⟩
      · exact .inl h
      · exact .inr (.inl h)
    · exact .inr (Fr.knd _ (hσ q hq).1)
  have hM' : a ∈ a :: cenv.locals :: wr ++ M := by simp
  have loop : codeAny (model pg w) A (.compLoop e 0 (.ref J) (.ref a) cenv) (RR (.ref a) cenv.locals) s4 := by
    refine hloop a cenv _ (fun n s' => ∃ i, n = ds.length - i ∧ i ≤ ds.length ∧ CI w A M s4 a cenv oc wr St σ' i s' ∧ Acc a (a :: cenv.locals :: wr ++ M) i s'.heap) ds.length s4 ?_
      ⟨0, rfl, Nat.zero_le _, C4, hacc0 _ _ _ hpl4⟩
    rintro n s' ⟨i, rfl, hi, C, hall⟩
    by_cases hlt : i < ds.length
    · have hdi : ds[i]? = some ds[i] := by simp [hlt]
      have hdm : ds[i] ∈ ds := List.getElem_mem hlt
      refine wpAny_mono (comp_step (K := fun s6 => wpAny (model pg w) A (testsTree ifs cenv) (fun ok s₃ =>
            if ok = true then wpAny (model pg w) A (emit a cenv) (fun _ s₅ => ∃ m, m < ds.length - i ∧ ∃ i, m = ds.length - i ∧ i ≤ ds.length ∧ CI w A M s4 a cenv oc wr St σ' i s₅ ∧ Acc a (a :: cenv.locals :: wr ++ M) i s₅.heap) (fun _ _ => False) s₃
            else ∃ m, m < ds.length - i ∧ ∃ i, m = ds.length - i ∧ i ≤ ds.length ∧ CI w A M s4 a cenv oc wr St σ' i s₃ ∧ Acc a (a :: cenv.locals :: wr ++ M) i s₃.heap) (fun _ _ => False) s6)
        W (fun b o e => Keeps.upto k4 _ _ (Keeps.upto k3 _ _ e)) hfr Fr.ok.k Fr.sto hdis hcw C hlt hdi (ht _ hdm) ?_) (fun r s1 q => ?_) fun _ _ q => q
      · intro s6 C6 ⟨m6, F6, B6⟩ st6 ch6
        have hall6 : Acc a (a :: cenv.locals :: wr ++ M) i s6.heap := hacc _ _ _ _ _ hM' hall st6 fun o e => ch6.h _ _ (fun q => by
          rcases List.mem_append.mp q with q | q
          · exact hane a q rfl
          · exact hawr q) e
        have V6 : VarsOk w (a :: cenv.locals :: wr ++ M) s6.heap cenv (β ds[i] ++ σ') := varsOk_of F6 (kinds _ hdm) B6
        refine ((hif _ hdm).run cenv _ _ Fr.ok V6).use (Up.refl _) C6.cx fun ok s7 k7 c7 e7 => ?_
        subst e7
        have C7 : CI w A M s4 a cenv oc wr St σ' (i + 1) s7 := ⟨C6.ch.trs (Keeps.chg k7), c7, W.W.frame _ _ _ C6.st fun b _ o e => Keeps.upto k7 _ _ e, let ⟨m, F, B⟩ := C6.fr; ⟨m, F.up (Keeps.upto k7), fun q hq => let ⟨v, e1, e2⟩ := B q hq; ⟨v, e1, e2.up (Keeps.upto k7)⟩⟩⟩
        have hall7 : Acc a (a :: cenv.locals :: wr ++ M) i s7.heap := hacc _ _ _ _ _ hM' hall6 ((Keeps.upto k7).stays fun _ h => h) fun o e => Keeps.upto k7 _ _ e
        cases hp : p ds[i] with
        | false =>
          simp only [Bool.false_eq_true, if_false]
          exact ⟨_, by omega, i + 1, rfl, hlt, C7, hskip _ _ _ _ _ hdi hp hall7⟩
        | true =>
          simp only [if_true]
          refine wpAny_mono (wpAny_toks (hemit a _ i _ cenv s7 hdi hp Fr.ok (V6.up (Keeps.upto k7)) c7 hM' hall7)) (fun _ s9 q => ?_) fun _ _ q => q.2.elim
          obtain ⟨tk9, ch9, hall9, hal9⟩ := q
          have st9 : Stays (a :: cenv.locals :: wr ++ M) (a :: cenv.locals :: wr ++ M) s7.heap s9.heap := ch9.h.stays fun t ht => .inl (by simp at ht; simp [ht])
          have hal : ∀ t ∈ ([a] : List Addr), 106 < t ∧ (t ∈ a :: cenv.locals :: wr ++ M → ∃ o, s9.heap.get? t = some o) := fun t ht => by
            obtain rfl := List.mem_singleton.mp ht
            exact ⟨(hfr _ (by simp)).2.1, fun _ => hal9⟩
          refine ⟨_, ?_, i + 1, rfl, hlt, ⟨?_, c7.chg ch9 hal tk9, ?_, ?_⟩, hall9⟩
          · omega
          · exact C7.ch.tr ch9 fun t ht => .inl (by simp at ht; simp [ht])
          · refine W.W.frame _ _ _ C7.st fun b hb o e => ch9.h b o (fun q => ?_) e
            obtain rfl := List.mem_singleton.mp q
            obtain ⟨o', e'⟩ := W.fl b hb
            rw [ha2] at e'; cases e'
          · obtain ⟨m8, F8, B8⟩ := C7.fr
            refine ⟨m8, F8.chg ch9.h (fun q => hane _ (by simp) (List.mem_singleton.mp q)) (fun x c e q => ?_), fun q hq => let ⟨v, e1, e2⟩ := B8 q hq; ⟨v, e1, e2.stays st9⟩⟩
            obtain rfl := List.mem_singleton.mp q
            rcases Fr.cel x c e with h | ⟨o, h⟩
            · exact hane c (by simp [h]) rfl
            · have := Keeps.upto k2 _ _ (u _ _ h)
              rw [ha2] at this; cases this
      · cases r with
        | none => exact q.elim
        | some v => exact q
    · have hin : i = ds.length := by omega
      refine wpAny_mono (wpAny_toks (Q := fun r s9 => r = none ∧ Chg wr s' s9) (E := fun _ _ => False) (W.W.done s' _ _ (hin ▸ C.st) fun h' tk hch => ⟨rfl, h', tk, rfl, hch⟩)) (fun r s9 q => ?_) fun _ _ q => q.2.elim
      obtain ⟨tk9, rfl, ch9⟩ := q
      show RR _ _ _ _
      have st9 : Stays (a :: cenv.locals :: wr ++ M) (a :: cenv.locals :: wr ++ M) s'.heap s9.heap := ch9.h.stays fun t ht => .inl (by simp [ht])
      have c9 : CX w A (cenv.locals :: M) s9 := (C.cx.weak (M' := cenv.locals :: M) (fun t ht => by
        simp only [List.mem_cons, List.cons_append, List.mem_append] at ht ⊢
        rcases ht with ht | ht <;> simp [ht])).chg ch9 (fun t ht => ⟨(W.wn t ht).2.2, fun h => by
          rcases List.mem_cons.mp h with rfl | h
          · obtain ⟨o, e⟩ := W.fl _ (W.W.sub _ ht)
            rw [(hfr _ (by simp)).1] at e; cases e
          · exact absurd h (W.wn t ht).2.1⟩) tk9
      obtain ⟨m', F', _⟩ := C.fr
      have hwl : cenv.locals ∉ wr := fun q => by
        obtain ⟨o, e⟩ := W.fl _ (W.W.sub _ q)
        rw [(hfr _ (by simp)).1] at e; cases e
      refine hRR a cenv.locals s9 ?_ c9 ?_ (hfr _ (by simp)).2.2 ⟨a :: cenv.locals :: wr ++ M, hM', fun t ht => ?_, ?_⟩ ?_ (hfr a (by simp)).2.1 ?_
      · refine Chg.keeps (T := a :: cenv.locals :: oc ++ wr) (((Keeps.chg (Keeps.tr (Keeps.tr k2 k3) k4)).tr C.ch fun t ht => .inl ht).tr ch9 fun t ht => .inl (by simp [ht])) fun t ht => ?_
        rcases List.mem_append.mp ht with ht | ht
        · exact none_down (Keeps.upto k2) (hfr t ht).1
        · exact (W.wn t ht).1
      · exact none_down (Keeps.upto k2) (hfr _ (by simp)).1
      · simp only [List.mem_cons, List.cons_append, List.mem_append] at ht ⊢
        rcases ht with ht | ht <;> simp [ht]
      · exact hin ▸ hacc _ _ _ _ _ hM' hall st9 fun o e => ch9.h _ _ hawr e
      · intro q
        rcases List.mem_cons.mp q with q | q
        · exact hane _ (by simp) q.symm
        · exact (hfr a (by simp)).2.2 q
      · obtain ⟨ml, hn, _⟩ := F'.ns
        exact ⟨ml, hn.at' fun o e => ch9.h _ _ hwl e⟩
  exact hstart a cenv _ s4 loop (W.W.self 0 s4 _ _ st4 loop)
end
end Mine
-- F10
namespace Mine
section
variable {w : World} {A : Around} {ns : List (Str × NameKind)} {σ : Sg} {M : List Addr} {g : Heap} {env : Env}
noncomputable def AccL (p : D → Bool) (f : D → PyData) (ds : List D) (a : Addr) (M' : List Addr) (i : Nat) (h : Heap) : Prop := ∃ ys, h.PlainList a ys ∧ IsAll M' h (((ds.take i).filter p).map f) ys.toList
theorem take_succ_of {ds : List D} {i : Nat} {d : D} (h : ds[i]? = some d) : ds.take (i + 1) = ds.take i ++ [d] := by rw [List.take_add_one, h]; rfl
theorem comp_hyps {scope : Scope} (he : EnvOk env ns) (hv : VarsOk w M g env σ) (hc : compOk ns scope.names (σ.map (·.1)) = true) :
    closureFor scope env = pure (clos env.cells scope.names []) ∧ ∀ x ∈ scope.names, x.2 = .local → scope.names.lookup x.1 = some .local := by
  refine ⟨closureFor_eq fun x hx hf => let ⟨_, c, _, _, h, _⟩ := comp_frees he hv hc x hx hf; ⟨c, h⟩, fun x hx hl => ?_⟩
  unfold compOk at hc
  rw [Bool.and_eq_true] at hc
  obtain ⟨n, k⟩ := x
  obtain rfl : k = .local := hl
  exact lookup_nodup (of_decide_eq_true hc.1) hx
theorem comp_list_any {s s2 : Shared} {J : Addr} {fp wr : List Addr} {P : Nat → Value → Prop} {St : Nat → Heap → Prop} {elt target iter : Expr} {ifs : List Expr} {scope : Scope} {pos : Pos} {ds : List D} (β : D → Sg) (p : D → Bool) (f : D → PyData) (σ' : Sg) {RR : Value → Addr → Result → Shared → Prop} {E : Value → Shared → Prop}
    (he : EnvOk env ns) (hv : VarsOk w M g env σ) (u : Up g s.heap) (k2 : Keeps s s2) (c2 : CX w A M s2) (W : Wk w A M s s2 J fp wr P St ds)
    (hsk : scope.kind = .function) (hc : compOk ns scope.names (σ.map (·.1)) = true)
    (hσ : ∀ q ∈ σ', (q.1, NameKind.free) ∈ scope.names ∧ σ.lookup q.1 = some q.2)
    (ht : ∀ d ∈ ds, TgtS scope.names target d (β d))
    (hif : ∀ d ∈ ds, TTs w A (rel ns scope.names) (β d ++ σ') ifs (p d))
    (hel : ∀ d ∈ ds, p d = true → EE w A (rel ns scope.names) (β d ++ σ') elt (.d (f d)))
    (hz : ds.length ≤ sizeLine)
    (hRR : ∀ a C s', Keeps s s' → CX w A (C :: M) s' → s.heap.get? C = none → C ∉ M → IsD pg w (C :: M) s'.heap (L ((ds.filter p).map f)) (.ref a) → (∃ m, s'.heap.Ns C m) → RR (.ref a) C (.ok .next) s') :
    wpAny (model pg w) A (newList []) (fun acc s₃ => wpAny (model pg w) A (newFunctionEnv scope env.globals (clos env.cells scope.names []) [] env.qual none .none (some env)) (fun cenv s₄ =>
      codeAny (model pg w) A (.compStart (.ListComp elt [⟨target, iter, ifs, 0⟩] scope pos) 0 (.ref J) acc { cenv with scope := relabel scope env }) (RR acc cenv.locals) s₄) E s₃) E s2 := by
  refine comp_core (accO := { cls := .type "list", data := .seq ([] : List Value).toArray }) (fun a cenv => emitL (.ref a) elt cenv) (AccL p f ds) β p σ' he hv u k2 c2 W hsk hc hσ ht hif
    (fun s Q E h => wpAny_newList h (by decide)) rfl ?_ ?_ ?_ ?_ (fun a cenv R I n s turn h => compLoop_list I turn n h) (fun a cenv R s h0 h => codeAny_compStart_list h0 h) ?_
  · intro a M' h e
    exact ⟨#[], ⟨0, e⟩, by simpa using isAll_nil⟩
  · rintro a M' i h h' _ ⟨ys, h1, h2⟩ st ha
    exact ⟨ys, h1.at ha, h2.stays st⟩
  · rintro a M' i d h hd hp ⟨ys, h1, h2⟩
    refine ⟨ys, h1, ?_⟩
    rw [take_succ_of hd, List.filter_append]
    simpa [hp] using h2
  · rintro a M' i d cenv s hd hp hE hV cx ha ⟨ys, h1, h2⟩
    have hdm : d ∈ ds := List.mem_of_getElem? hd
    refine wpAny_bind (((hel d hdm hp).run cenv M' _ hE hV).use (Up.refl _) cx fun y s8 k8 c8 e8 => wpAny_bind ?_)
    have hys : ys.size ≤ sizeLine := by
      have e1 := h2.length
      rw [Array.length_toList, List.length_map] at e1
      have e2 : ((ds.take i).filter p).length ≤ ds.length := Nat.le_trans (List.length_filter_le _ _) (by rw [List.length_take]; exact Nat.min_le_right _ _)
      omega
    refine wpAny_list_append_plain (hsz := hys) (h1.at fun o e => Keeps.upto k8 _ _ e) fun h' hl' hs' => wpAny_pure ?_
    have ch : Chg [a] s8 { s8 with heap := h' } := ⟨h', s8.toks, rfl, sameBut_chg hs'⟩
    have st9 : Stays M' M' s8.heap h' := (sameBut_chg hs').stays fun t ht => .inl (by simp at ht; subst ht; exact ha)
    refine ⟨(Keeps.chg k8).trs ch, ⟨ys.push y, hl', ?_⟩, let ⟨n, e⟩ := hl'; ⟨_, e⟩⟩
    rw [take_succ_of hd, List.filter_append, List.map_append]
    have e1 := (h2.up (Keeps.upto k8)).stays st9
    have e2 : Is M' h' (f d) y := Is.stays st9 e8
    simpa [hp] using isAll_append e1 (isAll_cons e2 isAll_nil)
  · rintro a C s' hk cx h1 h2 ⟨M', h3, h4, ys, h5, h6⟩ h7 _ h8
    refine hRR a C s' hk cx h1 h2 (toL h7 h5.isList ?_) h8
    rw [List.take_length] at h6
    exact h6.weak h4
/-- a list comprehension -/
theorem ee_comp {elt target iter : Expr} {ifs : List Expr} {scope : Scope} {pos : Pos} {ds : List D} (β : D → Sg) (p : D → Bool) (f : D → PyData) (σ' : Sg)
    (hi : ITER w A ns σ iter ds)
    (ht : ∀ d ∈ ds, TgtS scope.names target d (β d))
    (hif : ∀ d ∈ ds, TTs w A (rel ns scope.names) (β d ++ σ') ifs (p d))
    (hel : ∀ d ∈ ds, p d = true → EE w A (rel ns scope.names) (β d ++ σ') elt (.d (f d)))
    (hσ : ∀ q ∈ σ', (q.1, NameKind.free) ∈ scope.names ∧ σ.lookup q.1 = some q.2)
    (hc : compOk ns scope.names (σ.map (·.1)) = true) (hsk : scope.kind = .function := by rfl) (hz : ds.length ≤ sizeLine := by first | decide | (simp only [List.length_cons, List.length_nil]; decide))
    (hs : ∀ env x, foldedSetIterable iter env x = pure x := by intro _ _; rfl) : EE w A ns σ (.ListComp elt [⟨target, iter, ifs, 0⟩] scope pos) (L ((ds.filter p).map f)) := .mk <| fun env M g he hv s u c => by
  rw [eval_ListComp]
  obtain ⟨hclos, hnames⟩ := comp_hyps (scope := scope) he hv hc
  refine wpAny_comprehension_free (use := none) rfl (hs env) hclos hsk hnames (hi.run env M g _ _ s he hv u c fun s2 J fp wr P St k2 c2 W => ?_)
  refine comp_list_any β p f σ' he hv u k2 c2 W hsk hc hσ ht hif hel hz fun a C s' k' c' hC hCM hd ⟨m, hn⟩ => ⟨m, hn, fun h' hs' => ⟨?_, ?_⟩⟩
  · exact Chg.keeps (T := [C]) ((Keeps.chg k').trs ⟨h', s'.toks, rfl, sameBut_chg hs'⟩) (by simpa using hC)
  · exact IsD.weak (IsD.stays ((sameBut_chg hs').stays fun t ht => .inl (by simp at ht; simp [ht])) hd) fun t ht => by simp [ht]

-- dict comprehensions
section
variable {K X : Type} [DecidableEq K]
/-- the last value that a list of items gives a key -/
noncomputable def lkD (key : D → K) (val : D → X) (l : List D) (k : K) : Option X := l.foldl (fun acc d => if k = key d then some (val d) else acc) none
theorem lkD_snoc (key : D → K) (val : D → X) (l : List D) (d : D) (k : K) : lkD key val (l ++ [d]) k = if k = key d then some (val d) else lkD key val l k := by simp [lkD]
theorem valueAt_stored (kvs : List (K × Value)) (k : K) (v : Value) (k' : K) : valueAt (stored kvs k v) k' = if k' = k then some v else valueAt kvs k' := by
  unfold stored
  split
  · rename_i h
    induction kvs with
    | nil => simp at h
    | cons q r ih =>
      obtain ⟨a, b⟩ := q
      by_cases ha : a = k
      · subst ha
        simp only [List.map_cons, if_true, valueAt, List.find?_cons]
        by_cases hk : a = k'
        · subst hk; simp
        · have hk' : ¬ k' = a := fun e => hk e.symm
          simp only [hk, decide_false, hk', if_false]
          have : ∀ r : List (K × Value), List.find? (fun kv => decide (kv.1 = k')) (r.map fun kv => if kv.1 = a then (kv.1, v) else kv) = List.find? (fun kv => decide (kv.1 = k')) r := fun r => by
            induction r with
            | nil => rfl
            | cons q r ih =>
              obtain ⟨c, d⟩ := q
              by_cases hc : c = a
              · subst hc; simp [hk, ih]
              · simp only [List.map_cons, hc, if_false, List.find?_cons]
                rw [ih]
          rw [this]
      · have h' : r.any (fun kv => kv.1 = k) = true := by simpa [ha] using h
        have := ih h'
        simp only [List.map_cons, ha, if_false, valueAt, List.find?_cons] at this ⊢
        by_cases hk : a = k'
        · subst hk; simp [ha]
        · simp only [hk, decide_false]
          exact this
  · rename_i h
    unfold valueAt
    rw [List.find?_append]
    by_cases hk : k' = k
    · subst hk
      have : List.find? (fun kv : K × Value => decide (kv.1 = k')) kvs = none := by
        rw [List.find?_eq_none]
        intro x hx e
        exact h (List.any_eq_true.mpr ⟨x, hx, by simpa using e⟩)
      simp [this]
    · have hk' : ¬ k = k' := fun e => hk e.symm
      simp [hk, hk']
noncomputable def AccD (knd : KeyKind pg w K) (VR : List Addr → Heap → X → Value → Prop) (key : D → K) (val : D → X) (ds : List D) (a : Addr) (M' : List Addr) (i : Nat) (h : Heap) : Prop :=
  ∃ kvs, h.DictOf knd a kvs ∧ kvs.length ≤ i ∧ ∀ k, match lkD key val (ds.take i) k with | none => valueAt kvs k = none | some x => ∃ u, valueAt kvs k = some u ∧ VR M' h x u
theorem comp_dict_any {s s2 : Shared} {J : Addr} {fp wr : List Addr} {P : Nat → Value → Prop} {St : Nat → Heap → Prop} {kx vx target iter : Expr} {scope : Scope} {pos : Pos} {ds : List D} (knd : KeyKind pg w K) (VR : List Addr → Heap → X → Value → Prop) (key : D → K) (val : D → X)
    (β : D → Sg) (σ' : Sg) {RR : Value → Addr → Result → Shared → Prop} {E : Value → Shared → Prop}
    (hVR : ∀ M' M'' h h' x u, VR M' h x u → Stays M' M'' h h' → VR M'' h' x u)
    (he : EnvOk env ns) (hv : VarsOk w M g env σ) (u : Up g s.heap) (k2 : Keeps s s2) (c2 : CX w A M s2) (W : Wk w A M s s2 J fp wr P St ds)
    (hsk : scope.kind = .function) (hc : compOk ns scope.names (σ.map (·.1)) = true)
    (hσ : ∀ q ∈ σ', (q.1, NameKind.free) ∈ scope.names ∧ σ.lookup q.1 = some q.2)
    (ht : ∀ d ∈ ds, TgtS scope.names target d (β d))
    (hkx : ∀ d ∈ ds, ∀ env M g, EnvOk env (rel ns scope.names) → VarsOk w M g env (β d ++ σ') → TR w A M g (eval kx env) fun _ v => knd.is (key d) v = true)
    (hvx : ∀ d ∈ ds, ∀ env M g, EnvOk env (rel ns scope.names) → VarsOk w M g env (β d ++ σ') → TR w A M g (eval vx env) fun h v => VR M h (val d) v)
    (hz : ds.length ≤ sizeLine)
    (hRR : ∀ a C s', Keeps s s' → CX w A (C :: M) s' → s.heap.get? C = none → C ∉ M → a ∉ C :: M → a ≠ sysModules → (∃ F, s'.heap.MapOf knd a F ∧ ∀ k, match lkD key val ds k with | none => F k = none | some x => ∃ u, F k = some u ∧ VR (C :: M) s'.heap x u) → (∃ m, s'.heap.Ns C m) → RR (.ref a) C (.ok .next) s') :
    wpAny (model pg w) A newDict (fun acc s₃ => wpAny (model pg w) A (newFunctionEnv scope env.globals (clos env.cells scope.names []) [] env.qual none .none (some env)) (fun cenv s₄ =>
      codeAny (model pg w) A (.compStart (.DictComp kx vx [⟨target, iter, [], 0⟩] scope pos) 0 (.ref J) acc { cenv with scope := relabel scope env }) (RR acc cenv.locals) s₄) E s₃) E s2 := by
  refine comp_core (accO := { cls := .type "dict", data := .dict #[] }) (fun a cenv => emitD a kx vx cenv) (AccD knd VR key val ds) β (fun _ => true) σ' he hv u k2 c2 W hsk hc hσ ht (fun _ _ => tts_nil)
    (fun s Q E h => wpAny_newObj_type h (by size_fits)) rfl ?_ ?_ ?_ ?_ (fun a cenv R I n s turn h => compLoop_dict I turn n h) (fun a cenv R s h0 h => codeAny_compStart_dict h0 h) ?_
  · intro a M' h e
    exact ⟨[], ⟨_, #[], 0, e, ⟨rfl, rfl, rfl⟩, rfl, fun _ he => by simp at he, .nil, by simp⟩, Nat.le_refl _, fun k => by simp [lkD, valueAt]⟩
  · rintro a M' i h h' _ ⟨kvs, h1, h2, h3⟩ st ha
    refine ⟨kvs, let ⟨o, es, ep, e, r⟩ := h1; ⟨o, es, ep, ha _ e, r⟩, h2, fun k => ?_⟩
    have := h3 k
    split at this
    · exact this
    · obtain ⟨u', e1, e2⟩ := this; exact ⟨u', e1, hVR _ _ _ _ _ _ e2 st⟩
  · intro a M' i d h _ hp; cases hp
  · rintro a M' i d cenv s hd _ hE hV cx ha ⟨kvs, h1, h2, h3⟩
    have hdm : d ∈ ds := List.mem_of_getElem? hd
    unfold emitD
    refine wpAny_bind ((hkx d hdm cenv M' _ hE hV).use (Up.refl _) cx fun kv s7 k7 c7 e7 => wpAny_bind (wpAny_holding (((hvx d hdm cenv M' _ hE hV).up (Keeps.upto k7)).use (Up.refl _) c7 fun y s8 k8 c8 e8 => wpAny_bind (wpAny_standAt (wpAny_holding ?_)))))
    have hi : i < ds.length := (List.getElem?_eq_some_iff.mp hd).1
    refine wpAny_dictSet_pairs (hsz := by omega) e7 (let ⟨o, es, ep, e, r⟩ := h1; ⟨o, es, ep, Keeps.upto k8 _ _ (Keeps.upto k7 _ _ e), r⟩) fun h' hl' hs' => ?_
    have ch : Chg [a] s8 { s8 with heap := h', toks := s8.toks + 1 } := ⟨h', _, rfl, sameBut_chg hs'⟩
    have st9 : Stays M' M' s8.heap h' := (sameBut_chg hs').stays fun t ht => .inl (by simp at ht; subst ht; exact ha)
    refine ⟨((Keeps.chg k7).trs (Keeps.chg k8)).trs ch, ⟨stored kvs (key d) y, hl', Nat.le_trans (stored_length_le _ _ _) (by omega), fun k => ?_⟩, let ⟨o, es, ep, e, r⟩ := hl'; ⟨o, e⟩⟩
    rw [take_succ_of hd, lkD_snoc, valueAt_stored]
    by_cases hk : k = key d
    · simp only [hk, if_true]
      exact ⟨y, rfl, hVR _ _ _ _ _ _ e8 st9⟩
    · simp only [hk, if_false]
      have := h3 k
      split at this
      · exact this
      · obtain ⟨u', e1, e2⟩ := this
        exact ⟨u', e1, hVR _ _ _ _ _ _ (hVR _ _ _ _ _ _ e2 ((Up.trans (Keeps.upto k7) (Keeps.upto k8)).stays fun _ h => h)) st9⟩
  · rintro a C s' hk cx h1 h2 ⟨M', h3, h4, kvs, h5, h6, h7⟩ h8 h10 h9
    refine hRR a C s' hk cx h1 h2 h8 ?_ ⟨_, h5.mapOf, fun k => ?_⟩ h9
    · intro e; subst e; exact absurd h10 (by decide)
    · have := h7 k
      rw [List.take_length] at this
      split at this
      · exact this
      · obtain ⟨u', e1, e2⟩ := this; exact ⟨u', e1, hVR _ _ _ _ _ _ e2 ((Up.refl _).stays h4)⟩
end
end
end Mine
-- F11
namespace Mine

/-- the heap without the objects of T -/
noncomputable def hole (h : Heap) (T : List Addr) : Heap := ⟨h.objs.mapIdx fun i o => if i ∈ T then { o with data := .freed } else o, h.life⟩
theorem hole_in {h : Heap} {T : List Addr} {a : Addr} (ha : a ∈ T) : (hole h T).get? a = none := by
  unfold hole Heap.get?
  simp only [Array.getElem?_mapIdx]
  cases e : h.objs[a]? with
  | none => rfl
  | some o => simp [ha]
theorem hole_out {h : Heap} {T : List Addr} {a : Addr} (ha : a ∉ T) : (hole h T).get? a = h.get? a := by
  unfold hole Heap.get?
  simp only [Array.getElem?_mapIdx]
  cases e : h.objs[a]? with
  | none => rfl
  | some o => simp [ha]
theorem hole_up (h : Heap) (T : List Addr) : Up (hole h T) h := fun b o e => by
  by_cases hb : b ∈ T
  · rw [hole_in hb] at e; cases e
  · rwa [hole_out hb] at e

abbrev Ms := List (Str × List PyData)
/-- the state of a running function: b, what may not change; Mc, what its caller holds; ls, its own lists that change -/
structure ST (w : World) (A : Around) (b : Shared) (env : Env) (Mc : List Addr) (ls : List (Str × Addr)) (ns : List (Str × NameKind)) (σ : Sg) (ms : Ms) (s : Shared) : Prop where
  ok : EnvOk env ns
  cc : ∀ x, ns.lookup x = some .cell → ∃ c, env.cells.lookup x = some c
  kp : Keeps b s
  cx : CX w A (env.locals :: ls.map (·.2) ++ Mc) s
  fr : ∀ a ∈ env.locals :: env.cells.map (·.2) ++ ls.map (·.2), b.heap.get? a = none ∧ a ∉ Mc
  nd : (ls.map (·.2)).Nodup
  st : ∃ m, FRM env (env.cells.map (·.2)) m s.heap ∧
    (∀ x d, σ.lookup x = some d → (env.kindOf x = some .local ∨ env.kindOf x = some .cell) ∧ ∃ v, m x = some v ∧ IsD pg w (env.locals :: ls.map (·.2) ++ Mc) s.heap d v) ∧
    (∀ x ds, ms.lookup x = some ds → (env.kindOf x = some .local ∨ env.kindOf x = some .cell) ∧ ∃ a vs, ls.lookup x = some a ∧ m x = some (.ref a) ∧ s.heap.PlainList a vs ∧ IsAll (env.locals :: ls.map (·.2) ++ Mc) s.heap ds vs.toList)
inductive Out where
  | nx (σ : Sg) (ms : Ms)
  | rt (d : D)
noncomputable def Post (w : World) (A : Around) (b : Shared) (env : Env) (Mc : List Addr) (ns : List (Str × NameKind)) (o : Out) (f : Flow) (s' : Shared) : Prop := match o with
  | .nx σ ms => f = .next ∧ ∃ ls, ST w A b env Mc ls ns σ ms s'
  | .rt d => ∃ v, f = .ret v ∧ Keeps b s' ∧ IsD pg w Mc s'.heap d v
structure SX (w : World) (A : Around) (ns : List (Str × NameKind)) (σ : Sg) (ms : Ms) (ss : List Stmt) (o : Out) : Prop where
  run : ∀ b env Mc ls s, ST w A b env Mc ls ns σ ms s → wpAny (model pg w) A (execs ss env) (Post w A b env Mc ns o) (fun _ _ => False) s
structure SE (w : World) (A : Around) (ns : List (Str × NameKind)) (σ : Sg) (ms : Ms) (t : Stmt) (o : Out) : Prop where
  run : ∀ b env Mc ls s, ST w A b env Mc ls ns σ ms s → wpAny (model pg w) A (exec t env) (Post w A b env Mc ns o) (fun _ _ => False) s

theorem lookup_filter {β : Type} {p : Str × β → Bool} : ∀ {l : List (Str × β)} {x : Str} {v : β}, l.lookup x = some v → p (x, v) = true → (l.filter p).lookup x = some v
  | (k, u) :: r, x, v, h, hp => by
    rw [List.lookup_cons] at h
    cases hb : x == k with
    | true =>
      rw [hb] at h
      cases h
      obtain rfl := beq_iff_eq.mp hb
      rw [List.filter_cons, if_pos hp, List.lookup_cons, beq_self_eq_true]
    | false =>
      rw [hb] at h
      have ih := lookup_filter h hp
      rw [List.filter_cons]
      split
      · rw [List.lookup_cons, hb]; exact ih
      · exact ih
section
variable {w : World} {A : Around} {b : Shared} {env : Env} {Mc : List Addr} {ls : List (Str × Addr)} {ns : List (Str × NameKind)} {σ σ' : Sg} {ms ms' : Ms} {s : Shared} {o : Out}
theorem ST.vok (h : ST w A b env Mc ls ns σ ms s) : VarsOk w (env.locals :: ls.map (·.2) ++ Mc) s.heap env σ := fun x d e => by
  obtain ⟨m, F, hv, _⟩ := h.st
  obtain ⟨k, v, h1, h2⟩ := hv x d e
  refine ⟨v, ?_, h2⟩
  rcases k with k | k
  · obtain ⟨ml, hn, hml⟩ := F.ns
    exact .inl ⟨k, ml, hn, by rw [hml _ k]; exact h1⟩
  · obtain ⟨c, hc⟩ := F.lk x (.inl k) (by rw [h1]; simp)
    refine .inr ⟨.inl k, c, hc, ?_⟩
    have := F.cl x c (by rw [k]; decide) hc
    rwa [h1] at this
/-- all the names, its changing lists too -/
abbrev view (σ : Sg) (ms : Ms) : Sg := ms.map (fun q => (q.1, L q.2)) ++ σ
theorem lookup_map_L (ms : Ms) (x : Str) : (ms.map fun q => (q.1, L q.2)).lookup x = (ms.lookup x).map L := by
  induction ms with
  | nil => rfl
  | cons q r ih =>
    obtain ⟨k, v⟩ := q
    simp only [List.map_cons, List.lookup_cons]
    cases x == k <;> simp [ih]
theorem ST.vview (h : ST w A b env Mc ls ns σ ms s) : VarsOk w (env.locals :: Mc) s.heap env (view σ ms) := fun x d e => by
  obtain ⟨m, F, hv, hl⟩ := h.st
  have key : ∀ v, m x = some v → (env.kindOf x = some .local ∨ env.kindOf x = some .cell) → VarAt s.heap env x v := fun v h1 k => by
    rcases k with k | k
    · obtain ⟨ml, hn, hml⟩ := F.ns
      exact .inl ⟨k, ml, hn, by rw [hml _ k]; exact h1⟩
    · obtain ⟨c, hc⟩ := F.lk x (.inl k) (by rw [h1]; simp)
      refine .inr ⟨.inl k, c, hc, ?_⟩
      have := F.cl x c (by rw [k]; decide) hc
      rwa [h1] at this
  have hw : ∀ a ∈ env.locals :: Mc, a ∈ env.locals :: ls.map (·.2) ++ Mc := fun a ha => by
    rcases List.mem_cons.mp ha with rfl | ha
    · simp
    · simp [ha]
  rw [view, List.lookup_append, lookup_map_L] at e
  cases e1 : ms.lookup x with
  | some ds =>
    rw [e1] at e
    obtain rfl : L ds = d := by simpa using e
    obtain ⟨k, a, vs, h1, h2, h3, h4⟩ := hl x ds e1
    refine ⟨_, key _ h2 k, toL ?_ h3.isList (h4.weak hw)⟩
    intro q
    rcases List.mem_cons.mp q with q | q
    · obtain ⟨ml, ⟨o, es, ep, e2, e3, _⟩, _⟩ := F.ns
      obtain ⟨n, e4⟩ := h3
      rw [q, e2] at e4; cases e4; cases e3
    · exact (h.fr a (List.mem_append_right _ (List.mem_map.mpr ⟨_, mem_of_lookup h1, rfl⟩))).2 q
  | none =>
    rw [e1] at e
    obtain ⟨k, v, h1, h2⟩ := hv x d (by simpa using e)
    exact ⟨v, key _ h1 k, h2.weak hw⟩
theorem ST.keeps {s' : Shared} (h : ST w A b env Mc ls ns σ ms s) (k : Keeps s s') (c : CX w A (env.locals :: ls.map (·.2) ++ Mc) s') : ST w A b env Mc ls ns σ ms s' := by
  obtain ⟨m, F, hv, hl⟩ := h.st
  exact ⟨h.ok, h.cc, Keeps.tr h.kp k, c, h.fr, h.nd, m, F.up (Keeps.upto k), fun x d e => let ⟨q, v, h1, h2⟩ := hv x d e; ⟨q, v, h1, h2.up (Keeps.upto k)⟩,
    fun x ds e => let ⟨q, a, vs, h1, h2, h3, h4⟩ := hl x ds e; ⟨q, a, vs, h1, h2, h3.at fun o e => Keeps.upto k _ _ e, h4.up (Keeps.upto k)⟩⟩
theorem ST.cxv (h : ST w A b env Mc ls ns σ ms s) : CX w A (env.locals :: Mc) s := h.cx.weak fun a ha => by
  rcases List.mem_cons.mp ha with rfl | ha
  · simp
  · simp [ha]
theorem ST.weak (h : ST w A b env Mc ls ns σ ms s) (hσ : ∀ x d, σ'.lookup x = some d → σ.lookup x = some d) (hm : ∀ x ds, ms'.lookup x = some ds → ms.lookup x = some ds) : ST w A b env Mc ls ns σ' ms' s := by
  obtain ⟨m, F, hv, hl⟩ := h.st
  exact ⟨h.ok, h.cc, h.kp, h.cx, h.fr, h.nd, m, F, fun x d e => hv x d (hσ x d e), fun x ds e => hl x ds (hm x ds e)⟩
/-- the bindings of σ' among those of σ, name by name -/
noncomputable def sub (σ' σ : Sg) : Prop := ∀ q ∈ σ', σ.lookup q.1 = some q.2
theorem sub.lk (h : sub σ' σ) : ∀ x d, σ'.lookup x = some d → σ.lookup x = some d := fun x d e => h _ (mem_of_lookup e)

/-- names that may be stored: locals and cells -/
noncomputable def stoOk (ns : List (Str × NameKind)) (x : Str) : Bool := ns.lookup x == some .local || ns.lookup x == some .cell
theorem ST.sto (h : ST w A b env Mc ls ns σ ms s) {x : Str} (hx : stoOk ns x = true) : Sto env (env.cells.map (·.2)) x := by
  unfold stoOk at hx
  unfold Sto Env.kindOf
  rw [h.ok.n]
  rcases Bool.or_eq_true_iff.mp hx with q | q
  · exact .inl (beq_iff_eq.mp q)
  · obtain ⟨c, e⟩ := h.cc x (beq_iff_eq.mp q)
    exact .inr ⟨beq_iff_eq.mp q, c, e, List.mem_map.mpr ⟨_, mem_of_lookup e, rfl⟩⟩
theorem ST.knd (h : ST w A b env Mc ls ns σ ms s) {x : Str} (hx : stoOk ns x = true) : env.kindOf x = some .local ∨ env.kindOf x = some .cell := by
  unfold stoOk at hx
  unfold Env.kindOf
  rw [h.ok.n]
  rcases Bool.or_eq_true_iff.mp hx with q | q
  · exact .inl (beq_iff_eq.mp q)
  · exact .inr (beq_iff_eq.mp q)
theorem FRM.notSeq {oc : List Addr} {m : Str → Option Value} {h : Heap} (F : FRM env oc m h) {a : Addr} {vs : Array Value} (hl : h.PlainList a vs) : a ∉ env.locals :: oc := fun q => by
  obtain ⟨n, e⟩ := hl
  rcases List.mem_cons.mp q with q | q
  · obtain ⟨ml, ⟨o, es, ep, e2, e3, _⟩, _⟩ := F.ns
    rw [q, e2] at e; cases e; cases e3
  · obtain ⟨_, x, hk, e2⟩ := F.oc a q
    obtain ⟨o, e3, e4⟩ := F.cl x a (by rw [hk]; decide) e2
    rw [e3] at e; cases e; cases e4
theorem ST.oc_none (h : ST w A b env Mc ls ns σ ms s) : ∀ t ∈ env.locals :: env.cells.map (·.2), b.heap.get? t = none := fun t ht => (h.fr t (List.mem_append_left _ ht)).1
/-- a name takes data -/
theorem ST.store (h : ST w A b env Mc ls ns σ ms s) {x : Str} {d : D} {v : Value} (hx : stoOk ns x = true) (hm : ms.lookup x = none) (hv : IsD pg w (env.locals :: ls.map (·.2) ++ Mc) s.heap d v) :
    wpAny (model pg w) A (storeName env x v) (fun _ s' => ST w A b env Mc ls ns ((x, d) :: σ) ms s') (fun _ _ => False) s := by
  obtain ⟨m, F, hv', hl⟩ := h.st
  refine wpAny_mono (wpAny_toks (wp_store (Q := fun _ s' => FRM env (env.cells.map (·.2)) (setm m x v) s'.heap ∧ Chg (env.locals :: env.cells.map (·.2)) s s') (E := fun _ _ => False) F h.ok.k (h.sto hx) fun s' F' k => ⟨F', k⟩)) (fun _ s' q => ?_) fun _ _ q => q.2.elim
  obtain ⟨tk, F', k⟩ := q
  have st := F.stays (M := env.locals :: ls.map (·.2) ++ Mc) k.h (by simp)
  refine ⟨h.ok, h.cc, Chg.keeps ((Keeps.chg h.kp).trs k) h.oc_none, F'.chgx h.cx k (by simp) tk, h.fr, h.nd, _, F', fun y e he => ?_, fun y ds he => ?_⟩
  · rw [List.lookup_cons] at he
    cases hb : y == x with
    | true =>
      rw [hb] at he
      cases he
      obtain rfl := beq_iff_eq.mp hb
      exact ⟨h.knd hx, v, by simp [setm], hv.stays st⟩
    | false =>
      rw [hb] at he
      obtain ⟨q, u, h1, h2⟩ := hv' y e he
      exact ⟨q, u, by unfold setm; rw [if_neg (by simpa using hb)]; exact h1, h2.stays st⟩
  · obtain ⟨q, a, vs, h1, h2, h3, h4⟩ := hl y ds he
    refine ⟨q, a, vs, h1, ?_, h3.at fun o e => k.h _ _ (F.notSeq h3) e, h4.stays st⟩
    unfold setm
    rw [if_neg (fun e => by subst e; rw [hm] at he; cases he)]
    exact h2
/-- a new list is kept apart for a name -/
theorem ST.reserve {s' : Shared} (h : ST w A b env Mc ls ns σ ms s) (k : Keeps s s') (c : CX w A (env.locals :: ls.map (·.2) ++ Mc) s') {x : Str} {a : Addr} (ha : s.heap.get? a = none) (hb : ∃ o, s'.heap.get? a = some o) (h1 : 106 < a) (hm : ms.lookup x = none) : ST w A b env Mc ((x, a) :: ls) ns σ ms s' := by
  obtain ⟨m, F, hv, hl⟩ := h.st
  have hbn : b.heap.get? a = none := none_down (Keeps.upto h.kp) ha
  have hMc : a ∉ env.locals :: ls.map (·.2) ++ Mc := fun q => by
    obtain ⟨_, o, e⟩ := h.cx.live a q
    rw [ha] at e; cases e
  have st : Stays (env.locals :: ls.map (·.2) ++ Mc) (env.locals :: ((x, a) :: ls).map (·.2) ++ Mc) s.heap s'.heap := fun t o ht _ e => ⟨Keeps.upto k _ _ e, fun q => by
    simp only [List.map_cons, List.cons_append, List.mem_cons, List.mem_append] at q
    rcases q with q | q | q | q
    · exact ht (by simp [q])
    · subst q; rw [ha] at e; cases e
    · exact ht (by simp [q])
    · exact ht (by simp [q])⟩
  refine ⟨h.ok, h.cc, Keeps.tr h.kp k, ⟨c.hh, c.dp, c.un, fun t ht => ?_, c.base, c.tk⟩, fun t ht => ?_, ?_, m, F.up (Keeps.upto k), fun y e he => ?_, fun y ds he => ?_⟩
  · simp only [List.map_cons, List.cons_append, List.mem_cons, List.mem_append] at ht
    rcases ht with q | q | q | q
    · exact c.live t (by simp [q])
    · subst q; exact ⟨h1, hb⟩
    · exact c.live t (by simp [q])
    · exact c.live t (by simp [q])
  · rcases List.mem_append.mp ht with q | q
    · exact h.fr t (List.mem_append_left _ q)
    · rcases List.mem_cons.mp q with q | q
      · rw [q]; exact ⟨hbn, fun z => hMc (List.mem_append_right _ z)⟩
      · exact h.fr t (List.mem_append_right _ q)
  · rw [List.map_cons, List.nodup_cons]
    exact ⟨fun q => hMc (List.mem_append_left _ (List.mem_cons_of_mem _ q)), h.nd⟩
  · obtain ⟨q, v, e1, e2⟩ := hv y e he
    exact ⟨q, v, e1, e2.stays st⟩
  · obtain ⟨q, a', vs, e1, e2, e3, e4⟩ := hl y ds he
    refine ⟨q, a', vs, ?_, e2, e3.at fun o e => Keeps.upto k _ _ e, e4.stays st⟩
    rw [List.lookup_cons]
    cases hb' : y == x with
    | true =>
      obtain rfl := beq_iff_eq.mp hb'
      rw [hm] at he; cases he
    | false => exact e1
/-- and the name takes it -/
theorem ST.storeList (h : ST w A b env Mc ls ns σ ms s) {x : Str} {a : Addr} {ds : List PyData} {vs : Array Value} (hx : stoOk ns x = true) (hm : ms.lookup x = none) (hσ : σ.lookup x = none) (ha : ls.lookup x = some a) (hp : s.heap.PlainList a vs) (hall : IsAll (env.locals :: ls.map (·.2) ++ Mc) s.heap ds vs.toList) :
    wpAny (model pg w) A (storeName env x (.ref a)) (fun _ s' => ST w A b env Mc ls ns σ ((x, ds) :: ms) s') (fun _ _ => False) s := by
  obtain ⟨m, F, hv', hl⟩ := h.st
  refine wpAny_mono (wpAny_toks (wp_store (Q := fun _ s' => FRM env (env.cells.map (·.2)) (setm m x (.ref a)) s'.heap ∧ Chg (env.locals :: env.cells.map (·.2)) s s') (E := fun _ _ => False) F h.ok.k (h.sto hx) fun s' F' k => ⟨F', k⟩)) (fun _ s' q => ?_) fun _ _ q => q.2.elim
  obtain ⟨tk, F', k⟩ := q
  have st := F.stays (M := env.locals :: ls.map (·.2) ++ Mc) k.h (by simp)
  refine ⟨h.ok, h.cc, Chg.keeps ((Keeps.chg h.kp).trs k) h.oc_none, F'.chgx h.cx k (by simp) tk, h.fr, h.nd, _, F', fun y e he => ?_, fun y ds' he => ?_⟩
  · obtain ⟨q, u, h1, h2⟩ := hv' y e he
    exact ⟨q, u, by unfold setm; rw [if_neg (fun e => by subst e; rw [hσ] at he; cases he)]; exact h1, h2.stays st⟩
  · rw [List.lookup_cons] at he
    cases hb : y == x with
    | true =>
      rw [hb] at he
      cases he
      obtain rfl := beq_iff_eq.mp hb
      exact ⟨h.knd hx, a, vs, ha, by simp [setm], hp.at fun o e => k.h _ _ (F.notSeq hp) e, hall.stays st⟩
    | false =>
      rw [hb] at he
      obtain ⟨q, a', vs', h1, h2, h3, h4⟩ := hl y ds' he
      exact ⟨q, a', vs', h1, by unfold setm; rw [if_neg (by simpa using hb)]; exact h2, h3.at fun o e => k.h _ _ (F.notSeq h3) e, h4.stays st⟩
/-- a list that changes no more is data -/
theorem ST.release (h : ST w A b env Mc ls ns σ ms s) {x : Str} {ds : List PyData} (hx : ms.lookup x = some ds) (hsub : ∀ y ds', ms'.lookup y = some ds' → y ≠ x ∧ ms.lookup y = some ds') : ∃ ls', ST w A b env Mc ls' ns ((x, L ds) :: σ) ms' s := by
  obtain ⟨m, F, hv, hl⟩ := h.st
  obtain ⟨q, a, vs, h1, h2, h3, h4⟩ := hl x ds hx
  have hsubl : ∀ t, t ∈ (ls.filter fun p => p.2 != a).map (·.2) ↔ t ∈ ls.map (·.2) ∧ t ≠ a := fun t => by
    simp only [List.mem_map, List.mem_filter]
    constructor
    · rintro ⟨p, ⟨hp, hne⟩, rfl⟩; exact ⟨⟨p, hp, rfl⟩, by simpa using hne⟩
    · rintro ⟨⟨p, hp, rfl⟩, hne⟩; exact ⟨p, ⟨hp, by simpa using hne⟩, rfl⟩
  have hw : ∀ t ∈ env.locals :: (ls.filter fun p => p.2 != a).map (·.2) ++ Mc, t ∈ env.locals :: ls.map (·.2) ++ Mc := fun t ht => by
    simp only [List.cons_append, List.mem_cons, List.mem_append, hsubl] at ht ⊢
    rcases ht with ht | ht | ht <;> simp [ht]
  refine ⟨ls.filter fun p => p.2 != a, h.ok, h.cc, h.kp, h.cx.weak hw, fun t ht => h.fr t ?_, ?_, m, F, fun y e he => ?_, fun y ds' he => ?_⟩
  · simp only [List.cons_append, List.mem_cons, List.mem_append, hsubl] at ht ⊢
    rcases ht with ht | ht | ht <;> simp [ht]
  · exact List.Nodup.sublist (List.Sublist.map _ List.filter_sublist) h.nd
  · rw [List.lookup_cons] at he
    cases hb : y == x with
    | true =>
      rw [hb] at he
      cases he
      obtain rfl := beq_iff_eq.mp hb
      refine ⟨q, _, h2, toL ?_ h3.isList (h4.weak hw)⟩
      simp only [List.cons_append, List.mem_cons, List.mem_append, hsubl, not_or]
      refine ⟨fun e => F.notSeq h3 (by simp [e]), fun e => e.2 rfl, (h.fr a (List.mem_append_right _ (List.mem_map.mpr ⟨_, mem_of_lookup h1, rfl⟩))).2⟩
    | false =>
      rw [hb] at he
      obtain ⟨q', u, e1, e2⟩ := hv y e he
      exact ⟨q', u, e1, e2.weak hw⟩
  · obtain ⟨hne, he'⟩ := hsub y ds' he
    obtain ⟨q', a', vs', e1, e2, e3, e4⟩ := hl y ds' he'
    refine ⟨q', a', vs', ?_, e2, e3, e4.weak hw⟩
    have hane : a' ≠ a := fun e => by
      subst e
      exact hne (name_of_addr (List.pairwise_map.mp h.nd) (mem_of_lookup e1) (mem_of_lookup h1))
    exact lookup_filter e1 (by simpa using hane)
end
end Mine
-- F12
namespace Mine
section
variable {w : World} {A : Around} {b : Shared} {env : Env} {Mc : List Addr} {ls : List (Str × Addr)} {ns : List (Str × NameKind)} {σ σ' : Sg} {ms ms' : Ms} {s : Shared} {o : Out}
theorem ST.cx' {M0 : List Addr} {s' : Shared} (h : ST w A b env Mc ls ns σ ms s) (k : Keeps s s') (c : CX w A M0 s') : CX w A (env.locals :: ls.map (·.2) ++ Mc) s' := ⟨c.hh, c.dp, c.un, fun a ha => let ⟨h1, o, e⟩ := h.cx.live a ha; ⟨h1, o, Keeps.upto k _ _ e⟩, c.base, c.tk⟩
theorem sx_nil : SX w A ns σ ms [] (.nx σ ms) := .mk fun b env Mc ls s h => wpAny_execs_nil ⟨rfl, ls, h⟩
theorem sx_cons {t : Stmt} {ss : List Stmt} (h1 : SE w A ns σ ms t (.nx σ' ms')) (h2 : SX w A ns σ' ms' ss o) : SX w A ns σ ms (t :: ss) o := .mk fun b env Mc ls s h =>
  wpAny_execs_cons (wpAny_mono (h1.run b env Mc ls s h) (fun f s1 ⟨e, ls1, hs⟩ => by subst e; exact h2.run b env Mc ls1 s1 hs) fun _ _ x => x)
theorem sx_ret {t : Stmt} {ss : List Stmt} {d : D} (h1 : SE w A ns σ ms t (.rt d)) : SX w A ns σ ms (t :: ss) (.rt d) := .mk fun b env Mc ls s h =>
  wpAny_execs_cons (wpAny_mono (h1.run b env Mc ls s h) (fun f s1 ⟨v, e, r⟩ => by subst e; exact ⟨v, rfl, r⟩) fun _ _ x => x)
theorem sx_weak {ss : List Stmt} (h : SX w A ns σ ms ss (.nx σ' ms')) {σ2 : Sg} {ms2 : Ms} (hσ : ∀ x d, σ2.lookup x = some d → σ'.lookup x = some d) (hm : ∀ x d, ms2.lookup x = some d → ms'.lookup x = some d) : SX w A ns σ ms ss (.nx σ2 ms2) := .mk fun b env Mc ls s hs =>
  wpAny_mono (h.run b env Mc ls s hs) (fun f s1 ⟨e, ls1, h1⟩ => ⟨e, ls1, h1.weak hσ hm⟩) fun _ _ x => x
theorem sx_pre {ss : List Stmt} (h : SX w A ns σ' ms' ss o) (hσ : ∀ x d, σ'.lookup x = some d → σ.lookup x = some d) (hm : ∀ x d, ms'.lookup x = some d → ms.lookup x = some d) : SX w A ns σ ms ss o := .mk fun b env Mc ls s hs => h.run b env Mc ls s (hs.weak hσ hm)
theorem sx_release {ss : List Stmt} {x : Str} {ds : List PyData} (hx : ms.lookup x = some ds) (hsub : ∀ y ds', ms'.lookup y = some ds' → y ≠ x ∧ ms.lookup y = some ds') (h : SX w A ns ((x, L ds) :: σ) ms' ss o) : SX w A ns σ ms ss o := .mk fun b env Mc ls s hs => by
  obtain ⟨ls', h'⟩ := hs.release hx hsub
  exact h.run b env Mc ls' s h'
theorem se_pre {t : Stmt} (h : SE w A ns σ' ms' t o) (hσ : ∀ x d, σ'.lookup x = some d → σ.lookup x = some d) (hm : ∀ x d, ms'.lookup x = some d → ms.lookup x = some d) : SE w A ns σ ms t o := .mk fun b env Mc ls s hs => h.run b env Mc ls s (hs.weak hσ hm)
theorem se_weak {t : Stmt} (h : SE w A ns σ ms t (.nx σ' ms')) {σ2 : Sg} {ms2 : Ms} (hσ : ∀ x d, σ2.lookup x = some d → σ'.lookup x = some d) (hm : ∀ x d, ms2.lookup x = some d → ms'.lookup x = some d) : SE w A ns σ ms t (.nx σ2 ms2) := .mk fun b env Mc ls s hs =>
  wpAny_mono (h.run b env Mc ls s hs) (fun f s1 ⟨e, ls1, h1⟩ => ⟨e, ls1, h1.weak hσ hm⟩) fun _ _ x => x

theorem se_assign {x : Str} {e : Expr} {p pos : Pos} {d : D} (he : EE w A ns σ e d) (hx : stoOk ns x = true) (hm : ms.lookup x = none) (hs : ∀ env, EnvOk env ns → swapsWith e (some (.Name x p)) pos.line env = pure false := by intro _ _; rfl) :
    SE w A ns σ ms (.Assign [.Name x p] e pos) (.nx ((x, d) :: σ) ms) := .mk fun b env Mc ls s h =>
  wpAny_Assign_Name ((he.run env _ _ h.ok h.vok).use (Up.refl _) h.cx fun v s1 k1 c1 p1 => wpAny_mono ((h.keeps k1 c1).store hx hm p1) (fun _ s2 h2 => ⟨rfl, ls, h2⟩) fun _ _ q => q) (hs env h.ok)
/-- no address in it -/
noncomputable def Sc (d : D) : Prop := ∀ (w : World) M h v M' h', IsD pg w M h d v → IsD pg w M' h' d v
theorem sc_int (i : Int) : Sc (I i) := fun _ _ _ _ _ _ h => by obtain ⟨t, rfl⟩ := unI h; exact isD_int
theorem sc_str (i : Str) : Sc (S i) := fun _ _ _ _ _ _ h => by obtain ⟨t, rfl⟩ := unS h; exact isD_str
theorem sc_bool (i : Bool) : Sc (B i) := fun _ _ _ _ _ _ h => by obtain rfl := unB h; exact isD_bool
theorem se_assign_v {x : Str} {e : Expr} {p pos : Pos} {d : D} (he : EE w A ns (view σ ms) e d) (hd : Sc d) (hx : stoOk ns x = true) (hm : ms.lookup x = none) (hs : ∀ env, EnvOk env ns → swapsWith e (some (.Name x p)) pos.line env = pure false := by intro _ _; rfl) :
    SE w A ns σ ms (.Assign [.Name x p] e pos) (.nx ((x, d) :: σ) ms) := .mk fun b env Mc ls s h =>
  wpAny_Assign_Name ((he.run env _ _ h.ok h.vview).use (Up.refl _) h.cxv fun v s1 k1 c1 p1 => wpAny_mono ((h.keeps k1 (h.cx' k1 c1)).store hx hm (hd _ _ _ _ _ _ p1)) (fun _ s2 h2 => ⟨rfl, ls, h2⟩) fun _ _ q => q) (hs env h.ok)
theorem se_if {t : Expr} {body els : List Stmt} {pos : Pos} {c : Bool} (ht : TT w A ns (view σ ms) t c) (hb : c = true → SX w A ns σ ms body o) (he : c = false → SX w A ns σ ms els o) : SE w A ns σ ms (.If t body els pos) o := .mk fun b env Mc ls s h =>
  wpAny_If ((ht.run env _ _ h.ok h.vview).use (Up.refl _) h.cxv fun v s1 k1 c1 p1 => by
    subst p1
    have h1 := h.keeps k1 (h.cx' k1 c1)
    cases v with
    | true => simp only [if_true]; exact (hb rfl).run b env Mc ls s1 h1
    | false => simp only [Bool.false_eq_true, if_false]; exact (he rfl).run b env Mc ls s1 h1)
theorem se_return {e : Expr} {pos : Pos} {d : D} (he : EE w A ns σ e d) : SE w A ns σ ms (.Return (some e) pos) (.rt d) := .mk fun b env Mc ls s h =>
  wpAny_Return_some ((he.run env _ _ h.ok h.vok).use (Up.refl _) h.cx fun v s1 k1 c1 p1 => ⟨v, rfl, Keeps.tr h.kp k1, p1.weak fun a ha => by simp [ha]⟩)
theorem se_assert {t : Expr} {pos : Pos} {msg : Option Expr} (ht : TT w A ns (view σ ms) t true) : SE w A ns σ ms (.Assert t msg pos) (.nx σ ms) := .mk fun b env Mc ls s h =>
  wpAny_Assert_holds ((ht.run env _ _ h.ok h.vview).use (Up.refl _) h.cxv fun v s1 k1 c1 p1 => ⟨p1, rfl, ls, h.keeps k1 (h.cx' k1 c1)⟩)

/-- a target's names, storable -/
inductive TgtN (ns : List (Str × NameKind)) : Expr → D → Sg → Prop
  | name {x p d} : stoOk ns x = true → TgtN ns (.Name x p) d [(x, d)]
  | pair {x y p q r k d e} : stoOk ns x = true → stoOk ns y = true → x ≠ y → TgtN ns (.Tuple [.Name x p, .Name y q] k r) (T [d, e]) [(x, .d d), (y, .d e)]
  | three {x y z p q r t k d e f} : stoOk ns x = true → stoOk ns y = true → stoOk ns z = true → x ≠ y → x ≠ z → y ≠ z → TgtN ns (.Tuple [.Name x p, .Name y q, .Name z t] k r) (T [d, e, f]) [(x, .d d), (y, .d e), (z, .d f)]
theorem TgtN.to {t : Expr} {d : D} {β : Sg} (h : TgtN ns t d β) (hs : ST w A b env Mc ls ns σ ms s) : Tgt env (env.cells.map (·.2)) t d β := by
  cases h with
  | name a => exact .name (hs.sto a)
  | pair a b c => exact .pair (hs.sto a) (hs.sto b) c
  | three a b c d e f => exact .three (hs.sto a) (hs.sto b) (hs.sto c) d e f
theorem TgtN.keys {t : Expr} {d : D} {β : Sg} (h : TgtN ns t d β) : ∀ q ∈ β, stoOk ns q.1 = true := by
  cases h with
  | name a => intro x hx; simp at hx; subst hx; exact a
  | pair a b c => intro x hx; simp at hx; rcases hx with rfl | rfl <;> assumption
  | three a b c d e f => intro x hx; simp at hx; rcases hx with rfl | rfl | rfl <;> assumption
theorem ST.assign (h : ST w A b env Mc ls ns σ ms s) {t : Expr} {d : D} {β : Sg} {v : Value} (ht : TgtN ns t d β) (hm : ∀ q ∈ β, ms.lookup q.1 = none) (hv : IsD pg w (env.locals :: ls.map (·.2) ++ Mc) s.heap d v) :
    wpAny (model pg w) A (assign t env v) (fun _ s' => ST w A b env Mc ls ns (β ++ σ) ms s' ∧ Chg (env.locals :: env.cells.map (·.2)) s s') (fun _ _ => False) s := by
  obtain ⟨m, F, hv', hl⟩ := h.st
  refine wp_assign (ht.to h) F h.ok.k (by simp) h.cx hv fun s' m' F' k c' hm' hb => ⟨?_, k⟩
  have st := F.stays (M := env.locals :: ls.map (·.2) ++ Mc) k.h (by simp)
  refine ⟨h.ok, h.cc, Chg.keeps ((Keeps.chg h.kp).trs k) h.oc_none, c', h.fr, h.nd, _, F', fun y e he => ?_, fun y ds he => ?_⟩
  · rw [List.lookup_append] at he
    cases hb' : β.lookup y with
    | some e' =>
      rw [hb'] at he
      obtain rfl : e' = e := by simpa using he
      have := mem_of_lookup hb'
      exact ⟨h.knd (ht.keys _ this), hb _ this⟩
    | none =>
      rw [hb'] at he
      obtain ⟨q, u, h1, h2⟩ := hv' y e (by simpa using he)
      refine ⟨q, u, ?_, h2.stays st⟩
      rw [hm' y (fun hy => by
        have : (β.map (·.1)).contains y = true := by simpa using hy
        obtain ⟨v, e⟩ := contains_lookup this
        rw [hb'] at e; cases e)]
      exact h1
  · obtain ⟨q, a, vs, h1, h2, h3, h4⟩ := hl y ds he
    refine ⟨q, a, vs, h1, ?_, h3.at fun o e => k.h _ _ (F.notSeq h3) e, h4.stays st⟩
    rw [hm' y (fun hy => by
      obtain ⟨z, hz, rfl⟩ := List.mem_map.mp hy
      rw [hm z hz] at he; cases he)]
    exact h2

/-- what a running function may change -/
abbrev own (env : Env) (ls : List (Str × Addr)) : List Addr := env.locals :: env.cells.map (·.2) ++ ls.map (·.2)
theorem ST.rebase (h : ST w A b env Mc ls ns σ ms s) : ST w A { s with heap := hole s.heap (own env ls) } env Mc ls ns σ ms s :=
  ⟨h.ok, h.cc, ⟨s.heap, s.toks, rfl, hole_up _ _⟩, h.cx, fun a ha => ⟨hole_in ha, (h.fr a ha).2⟩, h.nd, h.st⟩
theorem ST.unbase {b2 : Shared} (h : ST w A b2 env Mc ls ns σ ms s) (k : Keeps b s) (u : Up b.heap b2.heap) : ST w A b env Mc ls ns σ ms s :=
  ⟨h.ok, h.cc, k, h.cx, fun a ha => ⟨none_down u (h.fr a ha).1, (h.fr a ha).2⟩, h.nd, h.st⟩
theorem keeps_hole {b s s7 : Shared} {T : List Addr} (k : Keeps b s) (k7 : Keeps { s with heap := hole s.heap T } s7) (hT : ∀ t ∈ T, b.heap.get? t = none) : Keeps b s7 ∧ Up b.heap (hole s.heap T) := by
  have u : Up b.heap (hole s.heap T) := fun t o e => by
    rw [hole_out (fun q => by rw [hT t q] at e; cases e)]
    exact Keeps.upto k _ _ e
  obtain ⟨h, t, rfl, u1⟩ := k
  obtain ⟨h', t', rfl, u2⟩ := k7
  exact ⟨⟨h', t', rfl, fun a o e => u2 a o (u a o e)⟩, u⟩

-- while
theorem se_while {t : Expr} {body : List Stmt} {pos : Pos} (n : Nat) (σI : Nat → Sg) (mI : Nat → Ms) (h0 : ∀ x d, (σI 0).lookup x = some d → σ.lookup x = some d) (h0m : ∀ x d, (mI 0).lookup x = some d → ms.lookup x = some d)
    (ht : ∀ i, i ≤ n → TT w A ns (view (σI i) (mI i)) t (decide (i < n))) (hb : ∀ i, i < n → SX w A ns (σI i) (mI i) body (.nx (σI (i + 1)) (mI (i + 1)))) : SE w A ns σ ms (.While t body [] pos) (.nx (σI n) (mI n)) := .mk fun b env Mc ls s h => by
  refine wpAny_While (codeAny_whileLoop (fun k s' => ∃ i ls', k = n - i ∧ i ≤ n ∧ ST w A b env Mc ls' ns (σI i) (mI i) s') ?_ n ⟨0, ls, rfl, Nat.zero_le _, h.weak h0 h0m⟩)
  rintro k s1 ⟨i, ls1, rfl, hi, h1⟩
  refine ((ht i hi).run env _ _ h1.ok h1.vview).use (Up.refl _) h1.cxv fun c s2 k2 c2 p2 => ?_
  subst p2
  have h2 := h1.keeps k2 (h1.cx' k2 c2)
  by_cases hlt : i < n
  · simp only [hlt, decide_true, if_true]
    refine wpAny_mono ((hb i hlt).run b env Mc ls1 s2 h2) (fun f s3 ⟨e, ls3, h3⟩ => ?_) fun _ _ q => q.elim
    subst e
    exact ⟨_, by omega, i + 1, ls3, rfl, hlt, h3⟩
  · simp only [hlt, decide_false, Bool.false_eq_true, if_false]
    have : i = n := by omega
    subst this
    exact wpAny_execs_nil ⟨rfl, ls1, h2⟩

-- for
/-- how a loop's turns go: n whole turns, and then (where they are fewer than the items) one that gives back r -/
theorem se_for_core {target iter : Expr} {body : List Stmt} {pos : Pos} {ds : List D} (β : D → Sg) (n : Nat) (hn : n ≤ ds.length) (r : D) (σI : Nat → Sg) (mI : Nat → Ms)
    (hi : ITER w A ns σ iter ds) (ht : ∀ d ∈ ds, TgtN ns target d (β d)) (hm : ∀ i, ∀ d ∈ ds, ∀ q ∈ β d, (mI i).lookup q.1 = none)
    (h0 : ∀ x d, (σI 0).lookup x = some d → σ.lookup x = some d) (h0m : ∀ x d, (mI 0).lookup x = some d → ms.lookup x = some d)
    (hb : ∀ i d, ds[i]? = some d → i < n → SX w A ns (β d ++ σI i) (mI i) body (.nx (σI (i + 1)) (mI (i + 1))))
    (hr : ∀ d, ds[n]? = some d → SX w A ns (β d ++ σI n) (mI n) body (.rt r))
    (hs : ∀ env x, foldedSetIterable iter env x = pure x := by intro _ _; rfl) :
    SE w A ns σ ms (.For target iter body [] pos) (if n = ds.length then .nx (σI n) (mI n) else .rt r) := .mk fun b env Mc ls s h => by
  refine wpAny_For (hi.run env _ _ _ _ s h.ok h.vok (Up.refl _) h.cx fun s2 J fp wr P St k2 c2 W => ?_) (hs env)
  have h2 := h.keeps k2 c2
  have hwrT : ∀ t ∈ wr, t ∉ own env ls := fun t ht q => by
    have : ∃ o, s.heap.get? t = some o := by
      obtain ⟨m, F, _⟩ := h.st
      rcases List.mem_append.mp q with q | q
      · exact F.live t q
      · exact (h.cx.live t (by simp [q])).2
    obtain ⟨o, e⟩ := this
    rw [(W.wn t ht).1] at e; cases e
  have hbw : ∀ t ∈ own env ls ++ wr, b.heap.get? t = none := fun t ht => by
    rcases List.mem_append.mp ht with ht | ht
    · exact (h.fr t ht).1
    · exact none_down (Keeps.upto h.kp) (W.wn t ht).1
  generalize hb' : ({ s2 with heap := hole s2.heap (own env ls ++ wr) } : Shared) = b'
  have hbh : b'.heap = hole s2.heap (own env ls ++ wr) := by rw [← hb']
  have hst0 : ST w A b' env Mc ls ns (σI 0) (mI 0) s2 := (show ST w A b' env Mc ls ns σ ms s2 from ⟨h2.ok, h2.cc, ⟨s2.heap, s2.toks, by rw [← hb'], by rw [hbh]; exact hole_up _ _⟩, h2.cx, fun a ha => ⟨by rw [hbh]; exact hole_in (List.mem_append_left _ ha), (h2.fr a ha).2⟩, h2.nd, h2.st⟩).weak h0 h0m
  have hbu : Up b.heap b'.heap := by
    rw [hbh]
    intro t o e
    rw [hole_out (fun q => by rw [hbw t q] at e; cases e)]
    exact Keeps.upto (Keeps.tr h.kp k2) _ _ e
  have hback : ∀ {s9 : Shared}, Keeps b' s9 → Keeps b s9 := fun {s9} k9 => by
    have k := Keeps.tr h.kp k2
    obtain ⟨x, t, rfl, u1⟩ := k
    obtain ⟨x', t', rfl, u2⟩ := k9
    exact ⟨x', t', by rw [← hb'], fun a o e => u2 a o (hbu a o e)⟩
  -- the source stays
  have hsrc : ∀ t ∈ fp, t ∈ wr ∨ ∃ o, b'.heap.get? t = some o := fun t ht => by
    rcases W.fs t ht with q | ⟨q1, q2⟩
    · exact .inl q
    · by_cases hw : t ∈ wr
      · exact .inl hw
      · obtain ⟨o, e⟩ := W.fl t ht
        refine .inr ⟨o, ?_⟩
        rw [hbh, hole_out (fun q => ?_)]
        · exact e
        · rcases List.mem_append.mp q with q | q
          · simp only [own, List.cons_append, List.mem_cons, List.mem_append] at q
            rcases q with q | q | q
            · exact q1 (by simp [q])
            · obtain ⟨m, F, _⟩ := h2.st
              obtain ⟨_, x, hk, e2⟩ := F.oc t q
              exact cell_notKept (F.cl x t (by rw [hk]; decide) e2) o e (q2 o e)
            · exact q1 (by simp [q])
          · exact hw q
  refine codeAny_forLoop_any (fun k s' => ∃ i ls', k = ds.length - i ∧ i ≤ n ∧ ST w A b' env Mc ls' ns (σI i) (mI i) s' ∧ St i s'.heap ∧ (∀ t ∈ wr, t ∉ own env ls')) ?_ ds.length ⟨0, ls, rfl, Nat.zero_le _, hst0, W.st, hwrT⟩
  rintro k s1 ⟨i, ls1, rfl, hi', h1, st1, hw1⟩
  have hdraw : ∀ s5, Chg wr s1 s5 → s1.toks ≤ s5.toks → ST w A b' env Mc ls1 ns (σI i) (mI i) s5 := fun s5 ch5 tk5 => by
    obtain ⟨m, F, hv, hl⟩ := h1.st
    have st5 : Stays (env.locals :: ls1.map (·.2) ++ Mc) (env.locals :: ls1.map (·.2) ++ Mc) s1.heap s5.heap := ch5.h.stays fun t ht => .inr fun o e => by
      obtain ⟨o', e', hn⟩ := W.sw i _ st1 t ht
      rw [e] at e'; cases e'; exact hn
    refine ⟨h1.ok, h1.cc, Chg.keeps ((Keeps.chg h1.kp).trs ch5) fun t ht => by rw [hbh]; exact hole_in (List.mem_append_right _ ht), h1.cx.chg ch5 (fun t ht => ⟨(W.wn t ht).2.2, fun q => ?_⟩) tk5, h1.fr, h1.nd, m,
      F.chg ch5.h (fun q => hw1 _ q (by simp [own])) (fun x c e q => hw1 c q (by simp only [own, List.cons_append, List.mem_cons, List.mem_append]; exact .inr (.inl (List.mem_map.mpr ⟨_, mem_of_lookup e, rfl⟩)))), fun x d e => ?_, fun x d e => ?_⟩
    · exfalso
      simp only [List.cons_append, List.mem_cons, List.mem_append] at q
      rcases q with q | q | q
      · exact hw1 t ht (by simp [own, q])
      · exact hw1 t ht (List.mem_append_right _ q)
      · exact (W.wn t ht).2.1 (by simp [q])
    · obtain ⟨q, v, e1, e2⟩ := hv x d e
      exact ⟨q, v, e1, e2.stays st5⟩
    · obtain ⟨q, a, vs, e1, e2, e3, e4⟩ := hl x d e
      exact ⟨q, a, vs, e1, e2, e3.at fun o e' => ch5.h _ _ (fun z => hw1 a z (by simp only [own, List.cons_append, List.mem_cons, List.mem_append]; exact .inr (.inr (List.mem_map.mpr ⟨_, mem_of_lookup e1, rfl⟩)))) e', e4.stays st5⟩
  by_cases hlt : i < ds.length
  · have hdi : ds[i]? = some ds[i] := by simp [hlt]
    have hdm : ds[i] ∈ ds := List.getElem_mem hlt
    refine wpAny_mono (wpAny_toks (Q := fun r s5 => ∃ v, r = some v ∧ P i v ∧ St (i + 1) s5.heap ∧ Chg wr s1 s5) (E := fun _ _ => False) (W.W.item i s1 _ _ hlt st1 fun v h' tk hp hst hch => ⟨v, rfl, hp, hst, h', tk, rfl, hch⟩)) (fun r s5 q => ?_) fun _ _ q => q.2.elim
    obtain ⟨tk5, v, rfl, hp, hst5, ch5⟩ := q
    show wpAny _ _ _ _ _ _
    have h5 := hdraw s5 ch5 tk5
    obtain ⟨d', hd', hv⟩ := W.vals i v hlt hp
    rw [hdi] at hd'; cases hd'
    have hv5 : IsD pg w (env.locals :: ls1.map (·.2) ++ Mc) s5.heap ds[i] v := hv.stays fun t o ht hkp e => by
      have htw : t ∉ wr := fun q => by
        obtain ⟨o', e', hn⟩ := W.sw 0 _ W.st t q
        rw [e] at e'; cases e'; exact hn hkp
      have hto : t ∉ own env ls := fun q => by
        simp only [own, List.cons_append, List.mem_cons, List.mem_append] at q
        rcases q with q | q | q
        · exact ht (by simp [q])
        · obtain ⟨m, F, _⟩ := h2.st
          obtain ⟨_, x, hk, e2⟩ := F.oc t q
          exact cell_notKept (F.cl x t (by rw [hk]; decide) e2) o e hkp
        · exact ht (by simp [q])
      have e' : b'.heap.get? t = some o := by
        rw [hbh, hole_out (fun q => (List.mem_append.mp q).elim hto htw)]; exact e
      refine ⟨Keeps.upto h5.kp _ _ e', fun q => ?_⟩
      simp only [List.cons_append, List.mem_cons, List.mem_append] at q
      rcases q with q | q | q
      · exact ht (by simp [q])
      · rw [(h5.fr t (List.mem_append_right _ q)).1] at e'; cases e'
      · exact ht (by simp [q])
    -- bound, and the body
    have fin : wpAny (model pg w) A (assign target env v) (fun _ s₂ => wpAny (model pg w) A (execs body env) (fun f s₃ => match f with
            | .next | .cont => ∃ m, m < ds.length - i ∧ ∃ i ls', m = ds.length - i ∧ i ≤ n ∧ ST w A b' env Mc ls' ns (σI i) (mI i) s₃ ∧ St i s₃.heap ∧ (∀ t ∈ wr, t ∉ own env ls')
            | .brk => Post w A b env Mc ns (if n = ds.length then .nx (σI n) (mI n) else .rt r) .next s₃
            | .ret v => Post w A b env Mc ns (if n = ds.length then .nx (σI n) (mI n) else .rt r) (.ret v) s₃) (fun _ _ => False) s₂) (fun _ _ => False) s5 := by
      refine wpAny_mono (h5.assign (ht _ hdm) (hm i _ hdm) hv5) (fun _ s6 ⟨h6, ch6⟩ => ?_) fun _ _ q => q
      have hst6 : St (i + 1) s6.heap := W.W.frame _ _ _ hst5 fun t htf o e => ch6.h t o (fun q => ?_) e
      · have hr6 := h6.rebase
        have hwb : ∀ t ∈ wr, ∃ o, (hole s6.heap (own env ls1)).get? t = some o := fun t htw => by
          obtain ⟨o, e, _⟩ := W.sw (i + 1) _ hst6 t htw
          exact ⟨o, by rw [hole_out (hw1 t htw)]; exact e⟩
        by_cases hin : i < n
        · refine wpAny_mono ((hb i _ hdi hin).run _ env Mc ls1 s6 hr6) (fun f s7 ⟨e, ls7, h7⟩ => ?_) fun _ _ q => q
          subst e
          obtain ⟨k7, u7⟩ := keeps_hole h6.kp h7.kp (fun t ht => (h6.fr t ht).1)
          refine ⟨_, ?_, i + 1, ls7, rfl, hin, h7.unbase k7 u7, W.W.frame _ _ _ hst6 fun t htf o e => ?_, fun t htw q => ?_⟩
          · omega
          · refine Keeps.upto h7.kp t o ?_
            show (hole s6.heap (own env ls1)).get? t = some o
            rw [hole_out (fun q => ?_)]
            · exact e
            · rcases hsrc t htf with z | ⟨o', z⟩
              · exact hw1 t z q
              · rw [(h6.fr t q).1] at z; cases z
          · obtain ⟨o, e⟩ := hwb t htw
            have := (h7.fr t q).1
            rw [show ({ s6 with heap := hole s6.heap (own env ls1) } : Shared).heap.get? t = some o from e] at this
            cases this
        · have hin' : i = n := by omega
          subst hin'
          refine wpAny_mono ((hr _ hdi).run _ env Mc ls1 s6 hr6) (fun f s7 ⟨v', e, k7', hv7⟩ => ?_) fun _ _ q => q
          subst e
          show Post _ _ _ _ _ _ _ _ _
          rw [if_neg (by omega)]
          obtain ⟨k7, u7⟩ := keeps_hole h6.kp k7' (fun t ht => (h6.fr t ht).1)
          exact ⟨v', rfl, hback k7, hv7⟩
      · rcases hsrc t htf with z | ⟨o', z⟩
        · exact hw1 t z (List.mem_append_left _ q)
        · rw [(h5.fr t (List.mem_append_left _ q)).1] at z; cases z
    have fin2 : ∀ (E1 E2 : Value → Shared → Prop), wpAny (model pg w) A (assign target env v) (fun _ s₂ => wpAny (model pg w) A (execs body env) (fun f s₃ => match f with
            | .next | .cont => ∃ m, m < ds.length - i ∧ ∃ i ls', m = ds.length - i ∧ i ≤ n ∧ ST w A b' env Mc ls' ns (σI i) (mI i) s₃ ∧ St i s₃.heap ∧ (∀ t ∈ wr, t ∉ own env ls')
            | .brk => Post w A b env Mc ns (if n = ds.length then .nx (σI n) (mI n) else .rt r) .next s₃
            | .ret v => Post w A b env Mc ns (if n = ds.length then .nx (σI n) (mI n) else .rt r) (.ret v) s₃) E1 s₂) E2 s5 := fun E1 E2 =>
      wpAny_mono fin (fun _ s2 q => wpAny_mono q (fun _ _ q => q) fun _ _ q => q.elim) fun _ _ q => q.elim
    have lo : ∀ {d0 : D} {β0 : Sg}, TgtN ns target d0 β0 → ∀ (Q : Unit → Shared → Prop) (E : Value → Shared → Prop), Q () s5 → wpAny (model pg w) A (letOwnedTupleGo target (.ref J) v) Q E s5 := fun {d0 β0} h0 Q E hq => by
      cases h0 with
      | name _ => exact wpAny_of_eq (a := ()) rfl hq
      | pair _ _ _ => exact W.own i v _ _ _ s5 _ _ hp hst5 hq
      | three _ _ _ _ _ _ => exact W.own i v _ _ _ s5 _ _ hp hst5 hq
    exact lo (ht _ hdm) _ _ (fin2 _ _)
  · have hin : i = ds.length := by omega
    have hnn : n = ds.length := by omega
    refine wpAny_mono (wpAny_toks (Q := fun r s9 => r = none ∧ Chg wr s1 s9) (E := fun _ _ => False) (W.W.done s1 _ _ (hin ▸ st1) fun h' tk hch => ⟨rfl, h', tk, rfl, hch⟩)) (fun r s9 q => ?_) fun _ _ q => q.2.elim
    obtain ⟨tk9, rfl, ch9⟩ := q
    refine wpAny_execs_nil ?_
    show Post _ _ _ _ _ _ _ _ _
    rw [if_pos hnn]
    subst hin
    have h9 := hdraw s9 ch9 tk9
    rw [hnn]
    exact ⟨rfl, ls1, h9.unbase (hback h9.kp) hbu⟩
end
end Mine
-- F13
namespace Mine
/-- room for n calls, one within the other -/
structure Dp (n : Nat) (A : Around) : Prop where
  hh : A.handled = none
  dp : A.depth + n < recursionLimit
  un : A.units + 3 * n + 64 < cLine
theorem Dp.deeper {n : Nat} {A : Around} (h : Dp (n + 1) A) (env : Env) : Dp n (A.deeper env) := ⟨h.hh, by have := h.dp; show A.depth + 1 + n < _; omega, by have := h.un; show A.units + 3 + 3 * n + 64 < _; omega⟩
theorem Dp.mono {n m : Nat} {A : Around} (h : Dp n A) (hm : m ≤ n) : Dp m A := ⟨h.hh, by have := h.dp; omega, by have := h.un; omega⟩

theorem bindL_other {kindOf : Str → Option NameKind} : ∀ {l : List (Str × Value)} {m : Str → Option Value} {x : Str}, x ∉ l.map (·.1) → bindL kindOf l m x = m x
  | [], _, _, _ => rfl
  | (n, v) :: r, m, x, h => by
    rw [List.map_cons, List.mem_cons, not_or] at h
    unfold bindL
    rw [bindL_other h.2]
    split
    · show (if x = n then some v else m x) = m x
      rw [if_neg h.1]
    · rfl
theorem bindL_at {kindOf : Str → Option NameKind} : ∀ {l : List (Str × Value)} {m : Str → Option Value} {x : Str} {v : Value}, (l.map (·.1)).Nodup → (x, v) ∈ l → kindOf x = some .local → bindL kindOf l m x = some v
  | (n, u) :: r, m, x, v, hn, hm, hk => by
    rw [List.map_cons, List.nodup_cons] at hn
    unfold bindL
    rcases List.mem_cons.mp hm with e | hm
    · cases e
      rw [bindL_other hn.1, if_pos hk, if_pos rfl]
    · exact bindL_at hn.2 hm hk
theorem bindC_other {kindOf : Str → Option NameKind} : ∀ {l : List (Str × Value)} {m : Str → Option Value} {x : Str}, x ∉ l.map (·.1) → bindC kindOf l m x = m x
  | [], _, _, _ => rfl
  | (n, v) :: r, m, x, h => by
    rw [List.map_cons, List.mem_cons, not_or] at h
    unfold bindC
    rw [bindC_other h.2]
    split
    · rfl
    · show (if x = n then some v else m x) = m x
      rw [if_neg h.1]
theorem bindC_at {kindOf : Str → Option NameKind} : ∀ {l : List (Str × Value)} {m : Str → Option Value} {x : Str} {v : Value}, (l.map (·.1)).Nodup → (x, v) ∈ l → kindOf x ≠ some .local → bindC kindOf l m x = some v
  | (n, u) :: r, m, x, v, hn, hm, hk => by
    rw [List.map_cons, List.nodup_cons] at hn
    unfold bindC
    rcases List.mem_cons.mp hm with e | hm
    · cases e
      rw [bindC_other hn.1, if_neg hk, if_pos rfl]
    · exact bindC_at hn.2 hm hk
theorem allD_zip {w : World} {M : List Addr} {h : Heap} : ∀ {ps : List Str} {ds : List D} {vs : List Value}, AllD w M h ds vs → ∀ x d, (ps.zip ds).lookup x = some d → ∃ v, (ps.zip vs).lookup x = some v ∧ IsD pg w M h d v
  | [], _, _, _, x, d, e => by simp at e
  | p :: ps, [], _, _, x, d, e => by simp at e
  | p :: ps, d' :: ds, _, ⟨v, r, q, a, b⟩, x, d, e => by
    subst q
    rw [List.zip_cons_cons, List.lookup_cons] at e ⊢
    cases hb : x == p with
    | true => rw [hb] at e; cases e; exact ⟨v, rfl, a⟩
    | false => rw [hb] at e; exact allD_zip b x d e
section
variable {w : World} {A : Around}
/-- the library's rule for a call, with what it tells of the tokens -/
theorem call_cells_toks {s : Shared} {R : Result → Shared → Prop} {a : Addr} {o : Obj} {fd : FuncData} {body : List Stmt} {vals : List Value} {binds : List (Str × Value)}
    (hroom : A.depth < recursionLimit) (ho : s.heap.get? a = some o) (hdata : o.data = .func fd) (hlim : s.heap.NoLimit) (hcd : s.heap.CodeRec fd.code fd.qualname)
    (hbody : fd.body = .stmts body) (hbind : bindArgs fd ⟨vals, []⟩ = pure binds) (hclo : fd.closure = [])
    (hkind : ∀ x ∈ binds, fd.scope.names.lookup x.1 = some .local ∨ (fd.scope.names.lookup x.1 = some .cell ∧ ((cellsFrom (s.heap.objs.size + 1) fd.scope.names []).lookup x.1).isSome = true))
    (h : ∀ s₁, s.toks ≤ s₁.toks → InCallC s (callEnvC fd s.heap.objs.size a).locals (bindL (callEnvC fd s.heap.objs.size a).kindOf binds fun _ => none) (callEnvC fd s.heap.objs.size a).cells
        (bindC (callEnvC fd s.heap.objs.size a).kindOf binds fun _ => none) s₁ →
      wpAny (model pg w) (A.deeper (callEnvC fd s.heap.objs.size a)) (execs body (callEnvC fd s.heap.objs.size a)) (fun f s' => R (.ok (.ret (match f with | .ret v => v | _ => .none))) s')
        (fun _ _ => False) s₁)
    (hco : fd.scope.isCoroutine = false) (hgen : fd.scope.isGenerator = false) (hk : fd.scope.kind = .function) :
    codeAny (model pg w) A (.call (.ref a) ⟨vals, []⟩) R s := by
  refine codeAny_call_function hroom ho hdata hco hgen hbody hcd ?_
  rw [hbind, hclo]
  refine wpAny_pure (wpAny_mono (wpAny_toks (wpAny_newFunctionEnv_cells (E := fun _ _ => False) (Q := fun env s' => env = callEnvC fd s.heap.objs.size a ∧ InCallC s env.locals (bindL env.kindOf binds fun _ => none) env.cells (bindC env.kindOf binds fun _ => none) s') hk hkind fun env he s' x => ⟨he, x⟩)) (fun env s' q => ?_) fun _ _ q => q.2.elim)
  obtain ⟨tk, he, x⟩ := q
  subst he
  exact ⟨hlim.keeps x.toInCall.keep, codeAny_func (wpAny_mono (h s' tk x) (fun _ _ q => q) fun _ _ q => q.elim)⟩
theorem callee_fn {x : Str} {k a : Nat} (hf : (x, k, a) ∈ ftab) : ∀ h, GL w h → (∃ o fd, h.get? a = some o ∧ o.data = .func fd) := fun h G => by
  obtain ⟨_, o, pm, cd, doc, h1, h2, _⟩ := G.fn _ hf
  exact ⟨o, _, h1, h2⟩
theorem callee_ref {x : Str} {k a : Nat} (hf : (x, k, a) ∈ ftab) : Callee w (.ref a) := fun h G => let ⟨o, fd, h1, h2⟩ := callee_fn hf h G; .inl ⟨a, o, fd, rfl, h1, h2⟩
/-- a call of a def of the text, by its body -/
theorem call_def {x : Str} {k a n : Nat} (hf : (x, k, a) ∈ ftab) {ps : List Str} {ds : List D} {d : D} (hA : Dp (n + 1) A)
    (hbind : ∀ pm cd doc vs, vs.length = ps.length → bindArgs (Calls.docDef x (fArgs k) (fBody k) (fScope k) pm cd doc) ⟨vs, []⟩ = pure (ps.zip vs))
    (hps : ps.Nodup) (hlen : ds.length = ps.length) (hst : ∀ p ∈ ps, stoOk (fNames k) p = true) (hnd : ((fNames k).map (·.1)).Nodup)
    (hbody : ∀ A', Dp n A' → SX w A' (fNames k) (ps.zip ds) [] (fBody k) (.rt d))
    (hco : (fScope k).isCoroutine = false) (hgen : (fScope k).isGenerator = false) (hk : (fScope k).kind = .function) : CALL w A (.ref a) ds d := .mk <| fun M g vs ha s u c => by
  obtain ⟨_, o, pm, cd, doc, h1, h2, h3⟩ := c.G.fn _ hf
  have hvl : vs.length = ps.length := by rw [ha.length, hlen]
  have hzn : ((ps.zip vs).map (·.1)) = ps := List.map_fst_zip (by omega)
  have hcells : ∀ p, (fNames k).lookup p = some .cell → ∃ c, (cellsFrom (s.heap.objs.size + 1) (fNames k) []).lookup p = some c := fun p hp => by
    rw [cellsFrom_own, List.append_nil]
    obtain ⟨⟨p', c'⟩, hq, rfl⟩ := List.mem_map.mp (ownC_cell (n := s.heap.objs.size + 1).mpr (mem_of_lookup hp))
    exact ⟨c', lookup_nodup (ownC_nodup hnd) hq⟩
  refine wpAny_call (call_cells_toks (vals := vs) (binds := ps.zip vs) (by have := hA.dp; omega) h1 h2 c.G.nl h3 rfl (hbind pm cd doc vs hvl) rfl ?_ (fun s₁ tk X => ?_) hco hgen hk)
  · intro q hq
    have hp : q.1 ∈ ps := by rw [← hzn]; exact List.mem_map.mpr ⟨_, hq, rfl⟩
    have := hst _ hp
    unfold stoOk at this
    rcases Bool.or_eq_true_iff.mp this with z | z
    · exact .inl (beq_iff_eq.mp z)
    · refine .inr ⟨beq_iff_eq.mp z, ?_⟩
      obtain ⟨c', e⟩ := hcells _ (beq_iff_eq.mp z)
      exact Option.isSome_iff_exists.mpr ⟨c', e⟩
  · generalize henv : callEnvC (Calls.docDef x (fArgs k) (fBody k) (fScope k) pm cd doc) s.heap.objs.size a = env at X ⊢
    have e1 : env.scope = fScope k := by rw [← henv]; rfl
    have e2 : env.locals = s.heap.objs.size := by rw [← henv]; rfl
    have e3 : env.cells = cellsFrom (s.heap.objs.size + 1) (fNames k) [] := by rw [← henv]; rfl
    have e4 : env.globals = mainGlobals := by rw [← henv]; rfl
    have e5 : env.builtins = builtinsNs := by rw [← henv]; rfl
    have hkind : ∀ p, env.kindOf p = (fNames k).lookup p := fun p => by unfold Env.kindOf; rw [e1]
    have kp : Keeps s s₁ := by exact X.done
    have c1 : CX w A M s₁ := c.up (Keeps.upto kp) tk
    have hge : ∀ t ∈ env.locals :: env.cells.map (·.2) ++ ([] : List (Str × Addr)).map (·.2), s.heap.objs.size ≤ t := fun t ht => by
      simp only [List.map_nil, List.append_nil] at ht
      rcases List.mem_cons.mp ht with rfl | ht
      · rw [e2]; exact Nat.le_refl _
      · obtain ⟨⟨p, t'⟩, hq, rfl⟩ := List.mem_map.mp ht
        have := X.above p t' hq
        rw [e2] at this
        exact Nat.le_of_lt this
    have hown : ∀ p c', env.cells.lookup p = some c' → (fNames k).lookup p = some .cell := fun p c' e => by
      rw [e3, cellsFrom_own, List.append_nil] at e
      exact lookup_nodup hnd (ownC_cell.mp (lookup_some_mem e))
    have hst1 : ST w (A.deeper env) s env M [] (fNames k) (ps.zip ds) [] s₁ := by
      refine ⟨⟨by rw [e1], by rw [e1]; exact hk, e4, e5⟩, fun p hp => by rw [e3]; exact hcells p hp, kp, ?_, fun t ht => ⟨fresh_none (hge t ht), c.new (hge t ht)⟩, by simp,
        fun p => match env.kindOf p with | some .local => bindL env.kindOf (ps.zip vs) (fun _ => none) p | some .cell => bindC env.kindOf (ps.zip vs) (fun _ => none) p | _ => none, ⟨⟨_, X.toInCall.ns, fun p hp => by simp only [hp]⟩, fun p c' hne hc' => ?_, fun p q c' _ h1 h2 => name_of_addr X.apart (mem_of_lookup h1) (mem_of_lookup h2), ?_, ?_⟩, ?_, ?_⟩
      · have hD := hA.deeper env
        have hL : ∃ o, s₁.heap.get? env.locals = some o := by obtain ⟨o, _, _, e, _⟩ := X.toInCall.ns; exact ⟨o, e⟩
        refine CX.more ⟨hD.hh, by have := hD.dp; omega, by have := hD.un; omega, c1.live, c1.base, c1.tk⟩ (by rw [e2]; exact c.G.size) hL
      · have := hown p c' hc'
        simp only [hkind p, this]
        have := X.cell p c' hc'
        simpa only [hkind] using this
      · intro p hp hne
        rcases hp with hp | hp
        · rw [hkind] at hp
          rw [e3]; exact hcells p hp
        · simp only [hp] at hne; exact absurd rfl hne
      · intro c' hc'
        obtain ⟨⟨p, c''⟩, hq, rfl⟩ := List.mem_map.mp hc'
        have h5 := hge c'' (List.mem_append_left _ (List.mem_cons_of_mem _ hc'))
        refine ⟨Nat.lt_of_lt_of_le c.G.size h5, p, ?_, ?_⟩
        · rw [hkind]
          rw [e3, cellsFrom_own, List.append_nil] at hq
          exact lookup_nodup hnd (ownC_cell.mp (List.mem_map.mpr ⟨_, hq, rfl⟩))
        · rw [e3, cellsFrom_own, List.append_nil] at hq ⊢
          exact lookup_nodup (ownC_nodup hnd) hq
      · intro p d' hp
        obtain ⟨v, hv, hi⟩ := allD_zip ha p d' hp
        have hm := mem_of_lookup hv
        have hpm : p ∈ ps := by rw [← hzn]; exact List.mem_map.mpr ⟨_, hm, rfl⟩
        have hs := hst _ hpm
        unfold stoOk at hs
        have hi' : IsD pg w (env.locals :: ([] : List (Str × Addr)).map (·.2) ++ M) s₁.heap d' v := hi.stays fun t o ht _ e => ⟨Keeps.upto kp _ _ (u _ _ e), fun q => by
          simp only [List.map_nil, List.cons_append, List.nil_append, List.mem_cons] at q
          rcases q with q | q
          · have := u _ _ e
            rw [q, e2, fresh_none (Nat.le_refl _)] at this; cases this
          · exact ht q⟩
        have hndz : ((ps.zip vs).map (·.1)).Nodup := by rw [hzn]; exact hps
        rcases Bool.or_eq_true_iff.mp hs with z | z
        · have z' := beq_iff_eq.mp z
          refine ⟨.inl (by rw [hkind]; exact z'), v, ?_, hi'⟩
          simp only [hkind, z']
          exact bindL_at hndz hm (by rw [hkind]; exact z')
        · have z' := beq_iff_eq.mp z
          refine ⟨.inr (by rw [hkind]; exact z'), v, ?_, hi'⟩
          simp only [hkind, z']
          exact bindC_at hndz hm (by rw [hkind, z']; decide)
      · intro p ds' hp; simp at hp
    refine wpAny_mono ((hbody _ (hA.deeper env)).run s env M [] s₁ hst1) (fun f s' ⟨v, e, k', hi⟩ => ?_) fun _ _ q => q.elim
    subst e
    exact ⟨k', hi⟩
end
end Mine
-- F14
namespace Mine
section
variable {w : World} {A : Around} {b : Shared} {env : Env} {Mc : List Addr} {ls : List (Str × Addr)} {ns : List (Str × NameKind)} {σ σ' : Sg} {ms ms' : Ms} {s : Shared} {o : Out}
/-- a list of its own, made anew -/
structure EN (w : World) (A : Around) (ns : List (Str × NameKind)) (σ : Sg) (e : Expr) (ds : List PyData) : Prop where
  run : ∀ env M s, EnvOk env ns → VarsOk w M s.heap env σ → CX w A M s → wpAny (model pg w) A (eval e env) (fun v s' => Keeps s s' ∧ ∃ a vs, v = .ref a ∧ s.heap.get? a = none ∧ 106 < a ∧ s'.heap.PlainList a vs ∧ IsAll (a :: M) s'.heap ds vs.toList) (fun _ _ => False) s
theorem EN.use {e : Expr} {ds : List PyData} {M : List Addr} {Q : Value → Shared → Prop} {E : Value → Shared → Prop} (h : EN w A ns σ e ds) (ho : EnvOk env ns) (hv : VarsOk w M s.heap env σ) (c : CX w A M s)
    (k : ∀ a vs s', Keeps s s' → CX w A M s' → s.heap.get? a = none → 106 < a → s'.heap.PlainList a vs → IsAll (a :: M) s'.heap ds vs.toList → Q (.ref a) s') : wpAny (model pg w) A (eval e env) Q E s :=
  wpAny_mono (wpAny_toks (h.run env M s ho hv c)) (fun v s' ⟨tk, k1, a, vs, e1, e2, e5, e3, e4⟩ => by subst e1; exact k a vs s' k1 (c.up (Keeps.upto k1) tk) e2 e5 e3 e4) fun _ _ x => x.2.elim
theorem isAll_fresh {M : List Addr} {h h' : Heap} {ds : List PyData} {vs : List Value} {a : Addr} (x : IsAll M h ds vs) (u : Up h h') (ha : h.get? a = none) : IsAll (a :: M) h' ds vs := x.stays fun t o ht _ e => ⟨u _ _ e, fun q => by
  rcases List.mem_cons.mp q with q | q
  · subst q; rw [ha] at e; cases e
  · exact ht q⟩
theorem VarsOk.more {M : List Addr} {a : Addr} {h h' : Heap} (v : VarsOk w M h env σ) (u : Up h h') (ha : h.get? a = none) : VarsOk w (a :: M) h' env σ := fun x d e => by
  obtain ⟨v, h1, h2⟩ := v x d e
  exact ⟨v, h1.up u, h2.stays fun t o ht _ e => ⟨u _ _ e, fun q => by
    rcases List.mem_cons.mp q with q | q
    · subst q; rw [ha] at e; cases e
    · exact ht q⟩⟩
theorem en_list {es : List Expr} {ds : List PyData} {pos : Pos} (h : EEs w A ns σ es (ds.map .d)) (hz : ds.length ≤ sizeLine := by first | decide | (simp only [List.length_cons, List.length_nil]; decide)) (hs : ∀ env, starEach es env = es.map fun e => (false, eval e env) := by intro _; rfl) : EN w A ns σ (.List es pos) ds := .mk <| fun env M s he hv c =>
  wpAny_List (by
    rw [hs, backTo_plain]
    exact (h.run he hv).use (Up.refl _) c fun vs s1 k1 c1 p1 => ⟨by rw [p1.py.length]; exact hz, Keeps.push k1 _, _, _, rfl, none_down (Keeps.upto k1) (fresh_none (Nat.le_refl _)), c1.G.size, ⟨_, Heap.get?_push_size _ rfl⟩, by simpa using isAll_fresh p1.py (Up.push _ _) (fresh_none (Nat.le_refl _))⟩)
theorem ST.reserve' {s' : Shared} (h : ST w A b env Mc ls ns σ ms s) (k : Keeps s s') (c : CX w A (env.locals :: ls.map (·.2) ++ Mc) s') {x : Str} {a : Addr} {vs : Array Value} (ha : s.heap.get? a = none) (hb : s'.heap.PlainList a vs) (h1 : 106 < a) (hm : ms.lookup x = none) : ST w A b env Mc ((x, a) :: ls) ns σ ms s' :=
  h.reserve k c ha (let ⟨n, e⟩ := hb; ⟨_, e⟩) h1 hm
theorem own_weak {x : Str} {a : Addr} {h : Heap} {ds : List PyData} {vs : List Value} (q : IsAll (a :: (env.locals :: ls.map (·.2) ++ Mc)) h ds vs) : IsAll (env.locals :: ((x, a) :: ls).map (·.2) ++ Mc) h ds vs := q.weak fun t ht => by
  simp only [List.map_cons, List.cons_append, List.mem_cons, List.mem_append] at ht ⊢
  rcases ht with ht | ht | ht | ht <;> simp [ht]
theorem se_new {x : Str} {e : Expr} {p pos : Pos} {ds : List PyData} (he : EN w A ns σ e ds) (hx : stoOk ns x = true) (hm : ms.lookup x = none) (hσ : σ.lookup x = none) (hs : ∀ env, EnvOk env ns → swapsWith e (some (.Name x p)) pos.line env = pure false := by intro _ _; rfl) :
    SE w A ns σ ms (.Assign [.Name x p] e pos) (.nx σ ((x, ds) :: ms)) := .mk fun b env Mc ls s h =>
  wpAny_Assign_Name (he.use h.ok h.vok h.cx fun a vs s1 k1 c1 e1 e2 e3 e4 => wpAny_mono ((h.reserve' k1 c1 e1 e3 e2 hm).storeList hx hm hσ (by simp) e3 (own_weak e4)) (fun _ s2 h2 => ⟨rfl, _, h2⟩) fun _ _ q => q) (hs env h.ok)
theorem ST.mutate {x : Str} {ds ds' : List PyData} {a : Addr} {vs vs' : Array Value} {h' : Heap} (h : ST w A b env Mc ls ns σ ms s) (hx : ms.lookup x = some ds) (ha : ls.lookup x = some a) (hp : s.heap.PlainList a vs) (hs : Heap.SameBut a s.heap h') (hp' : h'.PlainList a vs')
    (hall : IsAll (env.locals :: ls.map (·.2) ++ Mc) s.heap ds' vs'.toList) : ST w A b env Mc ls ns σ ((x, ds') :: ms) { s with heap := h' } := by
  obtain ⟨m, F, hv, hl⟩ := h.st
  have ham : a ∈ ls.map (·.2) := List.mem_map.mpr ⟨_, mem_of_lookup ha, rfl⟩
  have ham' : a ∈ env.locals :: ls.map (·.2) ++ Mc := by simp only [List.cons_append, List.mem_cons, List.mem_append]; exact .inr (.inl ham)
  have ch : ChgH [a] s.heap h' := sameBut_chg hs
  have st : Stays (env.locals :: ls.map (·.2) ++ Mc) (env.locals :: ls.map (·.2) ++ Mc) s.heap h' := ch.stays fun t ht => .inl (by obtain rfl := List.mem_singleton.mp ht; exact ham')
  have chg : Chg [a] s { s with heap := h' } := ⟨h', s.toks, rfl, ch⟩
  have hbn : ∀ t ∈ [a], b.heap.get? t = none := fun t ht => by obtain rfl := List.mem_singleton.mp ht; exact (h.fr t (List.mem_append_right _ ham)).1
  refine ⟨h.ok, h.cc, Chg.keeps ((Keeps.chg h.kp).trs chg) hbn, h.cx.chg chg (fun t ht => by
      obtain rfl := List.mem_singleton.mp ht
      exact ⟨(h.cx.live t ham').1, fun _ => let ⟨n, e⟩ := hp'; ⟨_, e⟩⟩) (Nat.le_refl _), h.fr, h.nd, m, F.chg ch (fun q => ?_) (fun y c e q => ?_), fun y e he => ?_, fun y ds0 he => ?_⟩
  · exact F.notSeq hp (by simp at q; simp [q])
  · obtain rfl := List.mem_singleton.mp q
    exact F.notSeq hp (List.mem_cons_of_mem _ (List.mem_map.mpr ⟨_, mem_of_lookup e, rfl⟩))
  · obtain ⟨q, u, h1, h2⟩ := hv y e he
    exact ⟨q, u, h1, h2.stays st⟩
  · rw [List.lookup_cons] at he
    cases hb : y == x with
    | true =>
      rw [hb] at he
      cases he
      obtain rfl := beq_iff_eq.mp hb
      obtain ⟨q, a', _, h1, h2, _⟩ := hl y ds hx
      rw [ha] at h1; cases h1
      exact ⟨q, a, vs', ha, h2, hp', hall.stays st⟩
    | false =>
      rw [hb] at he
      obtain ⟨q, a', us, h1, h2, h3, h4⟩ := hl y ds0 he
      refine ⟨q, a', us, h1, h2, h3.at fun o e => ch _ _ (fun z => ?_) e, h4.stays st⟩
      obtain rfl := List.mem_singleton.mp z
      have := name_of_addr (List.pairwise_map.mp h.nd) (mem_of_lookup h1) (mem_of_lookup ha)
      exact (by simpa using hb : y ≠ x) this
/-- where a changing list lies -/
theorem ST.at {x : Str} {ds : List PyData} (h : ST w A b env Mc ls ns σ ms s) (hx : ms.lookup x = some ds) : ∃ a vs, ls.lookup x = some a ∧ VarAt s.heap env x (.ref a) ∧ s.heap.PlainList a vs ∧ IsAll (env.locals :: ls.map (·.2) ++ Mc) s.heap ds vs.toList := by
  obtain ⟨m, F, hv, hl⟩ := h.st
  obtain ⟨k, a, vs, h1, h2, h3, h4⟩ := hl x ds hx
  refine ⟨a, vs, h1, ?_, h3, h4⟩
  rcases k with k | k
  · obtain ⟨ml, hn, hml⟩ := F.ns
    exact .inl ⟨k, ml, hn, by rw [hml _ k]; exact h2⟩
  · obtain ⟨c, hc⟩ := F.lk x (.inl k) (by rw [h2]; simp)
    refine .inr ⟨.inl k, c, hc, ?_⟩
    have := F.cl x c (by rw [k]; decide) hc
    rwa [h2] at this
theorem extendW (l : Addr) (items : Array Value) (n : Nat) (b : Addr) (items2 : Array Value) (n2 : Nat) (d2 : Option Addr) (sl2 : Array (Option Value)) (hc0 : ¬(!items.isEmpty && Builtin.List.listTooLong (items.size + items2.size)) = true) (hc1 : items.size ≤ sizeLine) (hs2 : items.size + items2.size ≤ sizeLine + 1) :
    Meets (Builtin.«list.extend» ⟨[.ref l, .ref b], []⟩) (fun _ R s => s.heap.get? l = some { cls := .type "list", dict := none, data := .seq items n, slots := #[] } ∧ s.heap.get? b = some { cls := .type "list", dict := d2, data := .seq items2 n2, slots := sl2 } ∧ R (.ok (.ret Value.none)) { s with heap := s.heap.update l (Obj.mapSeq fun x => x ++ items2), toks := s.toks }) :=
  .of_wp fun prog w A R s h => by
    obtain ⟨hp, g, d, tk, os⟩ := s; obtain ⟨hl, hb, h⟩ := h; have f1 := AutoSeq1.idx_int; have f2 := AutoSeq1.sub_tuple_tuple; have f3 := AutoSeq1.sub_list_list; have f4 := AutoSeq1.sub_tuple_list; have f5 := AutoSeq1.sub_list_tuple;
    have hz' : (items ++ items2).size ≤ sizeLine + 1 := by rw [Array.size_append]; exact hs2
    wp_walk using (wpAny_updateSeq hl rfl (hz := hc1) (_hz' := hz')), AutoSeq1.wpAny_loadPart' hl, AutoSeq1.wpAny_loadPart' hb; exact ⟨_, rfl, h⟩
theorem call_list_extend {l b : Addr} {items items2 : Array Value} {Q : Value → Shared → Prop} {E : Value → Shared → Prop} (hl : s.heap.PlainList l items) (hb : s.heap.IsList b items2) (hz : items.size + items2.size ≤ sizeLine)
    (hQ : ∀ h', h'.PlainList l (items ++ items2) → Heap.SameBut l s.heap h' → Q .none { s with heap := h' }) : wpAny (model pg w) A (call (.builtin "list.extend") [.ref l, .ref b]) Q E s := by
  obtain ⟨n', ho⟩ := hl
  obtain ⟨⟨cls2, dd2, data2, sl2⟩, ho2, hc2, n2, hd2⟩ := hb
  simp only at hc2 hd2
  subst hc2 hd2
  have h1 : ¬(!items.isEmpty && Builtin.List.listTooLong (items.size + items2.size)) = true := by
    have hz' : ¬ (sizeLine < items.size + items2.size) := Nat.not_lt.mpr hz
    simp [Builtin.List.listTooLong, hz']
  exact call_meets F.slot_list_extend ⟨_, ho, rfl⟩ F.entry_list_extend (F.args_list_extend_2 _ _) (extendW l items n' b items2 n2 dd2 sl2 h1 (Nat.le_trans (Nat.le_add_right _ _) hz) (Nat.le_succ_of_le hz)) ⟨ho, ho2, hQ _ ⟨_, IsL.update (n := n') ho _⟩ (Heap.SameBut.update ..)⟩
theorem call_list_pop {l : Addr} {items : Array Value} {y : Value} {Q : Value → Shared → Prop} {E : Value → Shared → Prop} (hl : s.heap.PlainList l items) (hy : items[items.size - 1]? = some y) (hz : items.size ≤ sizeLine)
    (hQ : ∀ h', h'.PlainList l (items.eraseIdxIfInBounds (items.size - 1)) → Heap.SameBut l s.heap h' → Q y { s with heap := h' }) : wpAny (model pg w) A (call (.builtin "list.pop") [.ref l]) Q E s := by
  obtain ⟨n', ho⟩ := hl
  exact call_meets F.slot_list_pop ⟨_, ho, rfl⟩ F.entry_list_pop (F.args_list_pop_1 _) (MeetsSeq.list_pop_last l items n' y hy hz) ⟨ho, hQ _ ⟨_, IsL.update (n := n') ho _⟩ (Heap.SameBut.update ..)⟩
/-- a method of a changing list -/
theorem wp_list_method {x name : Str} {id : String} {p apos pos : Pos} {as : List Expr} {ds : List PyData} {es : List D} {Q : Value → Shared → Prop} {E : Value → Shared → Prop} (h : ST w A b env Mc ls ns σ ms s) (hx : ms.lookup x = some ds) (ha : EEs w A ns σ as es)
    (slot : Slot "list" name id) (hty : typeOf (.builtin id) = pure (.type "method_descriptor"))
    (k : ∀ a vs us s', ST w A b env Mc ls ns σ ms s' → ls.lookup x = some a → s'.heap.PlainList a vs → IsAll (env.locals :: ls.map (·.2) ++ Mc) s'.heap ds vs.toList → AllD w (env.locals :: ls.map (·.2) ++ Mc) s'.heap es us → wpAny (model pg w) A (call (.builtin id) (.ref a :: us)) Q E s')
    (hbase : ∀ env, attributeBase (.Name x p) name env (eval (.Name x p) env) = eval (.Name x p) env := by intro _; rfl) (hline : (apos.endLine == pos.line) = true := by decide) (hlen : as.length < 30 := by decide)
    (hs : ∀ env, starEach as env = as.map fun e => (false, eval e env) := by intro _; rfl) (hd : (x == ("__debug__" : Str)) = false := by decide) (hc : (x == ("__classdict__" : Str)) = false := by decide) : wpAny (model pg w) A (eval (.Call (.Attribute (.Name x p) name apos) as [] pos) env) Q E s := by
  obtain ⟨a, vs, h1, h2, h3, h4⟩ := h.at hx
  refine wpAny_Call_method_late (hbase env) ?_ hline (trees := as.map fun e => (false, eval e env)) (by rw [hs, backTo_plain]) ((var_at h2 h.ok.k hd hc).use (Up.refl _) h.cx fun ov s1 k1 c1 p1 => ?_)
  · rw [hs, backTo_plain]
    simp only [Bool.and_eq_true, List.all_eq_true, decide_eq_true_eq]
    refine ⟨⟨fun x hx => ?_, by simp [backToKw, keywordEach]⟩, by simp at hlen ⊢; omega⟩
    obtain ⟨e, _, rfl⟩ := List.mem_map.mp hx
    rfl
  · subst p1
    have q1 := h.keeps k1 c1
    have l1 : s1.heap.PlainList a vs := h3.at fun o e => Keeps.upto k1 _ _ e
    refine ⟨"list", id, F.plainAttrs_list, slot, hty, l1.isList.typeIs, fun a' e => by cases e; obtain ⟨n, e⟩ := l1; exact ⟨_, e, rfl⟩, Calls.callWith_builtin any_plain ?_⟩
    have key := (ha.run q1.ok q1.vok).use (Q := fun us s2 => wpAny (model pg w) A (call (.builtin id) (.ref a :: us)) Q E s2) (E := E) (Up.refl _) c1 fun us s2 k2 c2 p2 => k a vs us s2 (q1.keeps k2 c2) h1 (l1.at fun o e => Keeps.upto k2 _ _ e) ((h4.up (Keeps.upto k1)).up (Keeps.upto k2)) p2
    cases as with
    | nil =>
      cases ha
      exact PyProof.Rows.evalArgs_empty (k a vs [] s1 q1 h1 l1 (h4.up (Keeps.upto k1)) rfl)
    | cons e es => exact Calls.evalArgs_plain key
theorem se_append {x : Str} {e : Expr} {p q r pos : Pos} {ds : List PyData} {d : PyData} (hx : ms.lookup x = some ds) (he : EE w A ns σ e (.d d)) (hz : ds.length ≤ sizeLine) (hi : ∀ env, EnvOk env ns → interactive env = false := by intro _ h; unfold interactive; rw [h.k]; rfl)
    (hbase : ∀ env, attributeBase (.Name x p) "append" env (eval (.Name x p) env) = eval (.Name x p) env := by intro _; rfl) (hline : (q.endLine == r.line) = true := by decide)
    (hs : ∀ env, starEach [e] env = [e].map fun e => (false, eval e env) := by intro _; rfl) (hd : (x == ("__debug__" : Str)) = false := by decide) (hc : (x == ("__classdict__" : Str)) = false := by decide)
    (hsw : ∀ env, swapsWith (.Call (.Attribute (.Name x p) "append" q) [e] [] r) none pos.line env = pure false := by intro _; rfl) :
    SE w A ns σ ms (.Expr (.Call (.Attribute (.Name x p) "append" q) [e] [] r) pos) (.nx σ ((x, ds ++ [d]) :: ms)) := .mk fun b env Mc ls s h =>
  wpAny_Expr_any (wp_list_method h hx (.cons he .nil) F.slot_list_append F.type_list_append (fun a vs us s' h' h1 h2 h3 h4 => by
    obtain ⟨v, rfl, hv⟩ := all1 h4
    have e1 : vs.size = ds.length := by rw [← h3.length]; simp
    exact wpAny_list_append_plain h2 (fun h'' g1 g2 => ⟨rfl, ls, h'.mutate hx h1 h2 g2 g1 (by simpa using isAll_append h3 (isAll_cons hv isAll_nil))⟩) (by omega)) hbase hline (by simp) hs hd hc) (hi env h.ok) (hsw env)
theorem se_extend {x : Str} {e : Expr} {p q r pos : Pos} {ds ds2 : List PyData} (hx : ms.lookup x = some ds) (he : EE w A ns σ e (L ds2)) (hz : ds.length + ds2.length ≤ sizeLine) (hi : ∀ env, EnvOk env ns → interactive env = false := by intro _ h; unfold interactive; rw [h.k]; rfl)
    (hbase : ∀ env, attributeBase (.Name x p) "extend" env (eval (.Name x p) env) = eval (.Name x p) env := by intro _; rfl) (hline : (q.endLine == r.line) = true := by decide)
    (hs : ∀ env, starEach [e] env = [e].map fun e => (false, eval e env) := by intro _; rfl) (hd : (x == ("__debug__" : Str)) = false := by decide) (hc : (x == ("__classdict__" : Str)) = false := by decide)
    (hsw : ∀ env, swapsWith (.Call (.Attribute (.Name x p) "extend" q) [e] [] r) none pos.line env = pure false := by intro _; rfl) :
    SE w A ns σ ms (.Expr (.Call (.Attribute (.Name x p) "extend" q) [e] [] r) pos) (.nx σ ((x, ds ++ ds2) :: ms)) := .mk fun b env Mc ls s h =>
  wpAny_Expr_any (wp_list_method h hx (.cons he .nil) F.slot_list_extend F.type_list_extend (fun a vs us s' h' h1 h2 h3 h4 => by
    obtain ⟨v, rfl, hv⟩ := all1 h4
    obtain ⟨a2, vs2, rfl, hn, hl2, hall2⟩ := unL hv
    have e1 : vs.size = ds.length := by rw [← h3.length]; simp
    have e2 : vs2.size = ds2.length := by rw [← hall2.length]; simp
    exact call_list_extend h2 hl2 (by omega) (fun h'' g1 g2 => ⟨rfl, ls, h'.mutate hx h1 h2 g2 g1 (by simpa using isAll_append h3 hall2)⟩)) hbase hline (by simp) hs hd hc) (hi env h.ok) (hsw env)
theorem isAll_erase {M : List Addr} {h : Heap} : ∀ {ds : List PyData} {vs : List Value} (j : Nat), IsAll M h ds vs → IsAll M h (ds.eraseIdx j) (vs.eraseIdx j)
  | [], _, j, x => by rw [x.nil]; exact isAll_nil
  | _ :: _, _, 0, x => by obtain ⟨v, r, rfl, _, y⟩ := x.cons; exact y
  | _ :: _, _, j + 1, x => by obtain ⟨v, r, rfl, a, y⟩ := x.cons; exact isAll_cons a (isAll_erase j y)
theorem erase_toList (vs : Array Value) (j : Nat) : (vs.eraseIdxIfInBounds j).toList = vs.toList.eraseIdx j := by
  simp
theorem se_pop {x : Str} {t : Expr} {p q r pos : Pos} {ds : List PyData} {d : PyData} {β : Sg} (hx : ms.lookup x = some (ds ++ [d])) (ht : TgtN ns t (.d d) β) (hb : ∀ q ∈ β, ms.lookup q.1 = none) (hbx : ∀ q ∈ β, q.1 ≠ x) (hz : ds.length < sizeLine)
    (hbase : ∀ env, attributeBase (.Name x p) "pop" env (eval (.Name x p) env) = eval (.Name x p) env := by intro _; rfl) (hline : (q.endLine == r.line) = true := by decide)
    (hd : (x == ("__debug__" : Str)) = false := by decide) (hc : (x == ("__classdict__" : Str)) = false := by decide)
    (hA : ∀ b env Mc ls s Q, ST w A b env Mc ls ns σ ms s → wpAny (model pg w) A (eval (.Call (.Attribute (.Name x p) "pop" q) [] [] r) env) (fun v s₁ => wpAny (model pg w) A (assign t env v) (fun _ => Q .next) (fun _ _ => False) s₁) (fun _ _ => False) s → wpAny (model pg w) A (exec (.Assign [t] (.Call (.Attribute (.Name x p) "pop" q) [] [] r) pos) env) Q (fun _ _ => False) s) :
    SE w A ns σ ms (.Assign [t] (.Call (.Attribute (.Name x p) "pop" q) [] [] r) pos) (.nx (β ++ σ) ((x, ds) :: ms)) := .mk fun b env Mc ls s h => by
  refine hA b env Mc ls s _ h (wp_list_method h hx .nil F.slot_list_pop F.type_list_pop (fun a vs us s' h' h1 h2 h3 h4 => ?_) hbase hline (by simp) (by intro _; rfl) hd hc)
  obtain rfl : us = [] := h4
  have e1 : vs.size = ds.length + 1 := by have := h3.length; simpa using this
  obtain ⟨v, hv, hv'⟩ := h3.get (i := vs.size - 1) (d := d) (by rw [e1]; simp)
  refine call_list_pop h2 (by simpa using hv) (by omega) fun h'' g1 g2 => ?_
  have h5 := h'.mutate hx h1 h2 g2 g1 (ds' := ds) (by
    have := isAll_erase ds.length h3
    rw [List.eraseIdx_append_of_length_le (Nat.le_refl _)] at this
    rw [erase_toList, e1]
    simpa using this)
  have st : Stays (env.locals :: ls.map (·.2) ++ Mc) (env.locals :: ls.map (·.2) ++ Mc) s'.heap h'' := (sameBut_chg g2).stays fun t ht => .inl (by
    obtain rfl := List.mem_singleton.mp ht
    simp only [List.cons_append, List.mem_cons, List.mem_append]
    exact .inr (.inl (List.mem_map.mpr ⟨_, mem_of_lookup h1, rfl⟩)))
  refine wpAny_mono (h5.assign ht (fun q hq => ?_) (d := .d d) (Is.stays st hv')) (fun _ s2 h2 => ⟨rfl, ls, h2.1⟩) fun _ _ q => q
  rw [List.lookup_cons, show (q.1 == x) = false from by simpa using hbx q hq]
  exact hb q hq
theorem se_del {x : Str} {i : Expr} {p q pos : Pos} {ds : List PyData} {k : Int} {j : Nat} (hx : ms.lookup x = some ds) (he : EE w A ns σ i (I k)) (hf : Builtin.List.listFitsIndex k = true) (hk : seqIndex? k ds.length = some j) (hz : ds.length ≤ sizeLine)
    (hd : (x == ("__debug__" : Str)) = false := by decide) (hc : (x == ("__classdict__" : Str)) = false := by decide) :
    SE w A ns σ ms (.Delete [.Subscript (.Name x p) i q] pos) (.nx σ ((x, ds.eraseIdx j) :: ms)) := .mk fun b env Mc ls s h => by
  obtain ⟨a, vs, h1, h2, h3, h4⟩ := h.at hx
  refine wpAny_Delete (wpAny_deleteEach_cons (wpAny_delete_Subscript ((var_at h2 h.ok.k hd hc).use (Up.refl _) h.cx fun ov s1 k1 c1 p1 => ?_)))
  subst p1
  have q1 := h.keeps k1 c1
  refine (he.run env _ _ q1.ok q1.vok).use (Up.refl _) c1 fun iv s2 k2 c2 p2 => ?_
  obtain ⟨t, rfl⟩ := unI p2
  have q2 := q1.keeps k2 c2
  have l2 : s2.heap.PlainList a vs := (h3.at fun o e => Keeps.upto k1 _ _ e).at fun o e => Keeps.upto k2 _ _ e
  have a2 := (h4.up (Keeps.upto k1)).up (Keeps.upto k2)
  have e1 : vs.size = ds.length := by rw [← h4.length]; simp
  exact wpAny_delItem_plain l2 hf (by rw [e1]; exact hk) (fun h' g1 g2 => wpAny_deleteEach_nil ⟨rfl, ls, q2.mutate hx h1 l2 g2 g1 (by rw [erase_toList]; exact isAll_erase j a2)⟩) (by omega)
theorem load_at {x : Str} {M : List Addr} {g : Heap} {v : Value} (hv : VarAt g env x v) (hk : env.scope.kind = .function) (hc : (x == ("__classdict__" : Str)) = false) : TR w A M g (loadName env x) fun _ u => u = v := fun s u _ => by
  rcases hv.up u with ⟨k, m, n, e⟩ | ⟨k | k, c, e, i⟩
  · exact wpAny_loadName_local hk k n e ⟨Keeps.rfl s, rfl⟩
  · exact wpAny_loadName_cell hk k e i ⟨Keeps.rfl s, rfl⟩
  · exact wpAny_loadName_free hk k e i ⟨Keeps.rfl s, rfl⟩ hc
noncomputable def IOP (w : World) (A : Around) (op : Operator) (c d r : D) : Prop := ∀ M g x y, IsD pg w M g c x → IsD pg w M g d y → TR w A M g (inplaceOp op x y) fun h v => IsD pg w M h r v
theorem iop_add (i j : Int) : IOP w A .Add (I i) (I j) (I (i + j)) := fun M g x y hx hy => by
  obtain ⟨t, rfl⟩ := unI hx; obtain ⟨u, rfl⟩ := unI hy
  exact fun s _ _ => PyProof.Rows.iadd_int ⟨Keeps.tok (Keeps.rfl s) _, isD_int⟩
theorem iop_sub (i j : Int) : IOP w A .Sub (I i) (I j) (I (i - j)) := fun M g x y hx hy => by
  obtain ⟨t, rfl⟩ := unI hx; obtain ⟨u, rfl⟩ := unI hy
  exact fun s _ _ => PyProof.Rows.isub_int ⟨Keeps.tok (Keeps.rfl s) _, isD_int⟩
theorem se_aug {x : Str} {op : Operator} {e : Expr} {p pos : Pos} {c d r : D} (hl : σ.lookup x = some c) (he : EE w A ns (view σ ms) e d) (hop : IOP w A op c d r) (hd : Sc c) (hr : Sc r) (hx : stoOk ns x = true) (hm : ms.lookup x = none) (hc : (x == ("__classdict__" : Str)) = false := by decide) :
    SE w A ns σ ms (.AugAssign (.Name x p) op e pos) (.nx ((x, r) :: σ) ms) := .mk fun b env Mc ls s h => by
  obtain ⟨v0, h1, h2⟩ := h.vok x c hl
  refine wpAny_AugAssign_Name ((load_at h1 h.ok.k hc).use (Up.refl _) h.cxv fun ov s1 k1 c1 p1 => ?_)
  subst p1
  have q1 := h.keeps k1 (h.cx' k1 c1)
  refine (he.run env _ _ q1.ok q1.vview).use (Up.refl _) c1 fun v s2 k2 c2 p2 => ?_
  have q2 := q1.keeps k2 (q1.cx' k2 c2)
  refine (hop _ _ _ _ (hd _ _ _ _ _ _ h2) p2).use (Up.refl _) c2 fun v3 s3 k3 c3 p3 => ?_
  have q3 := q2.keeps k3 (q2.cx' k3 c3)
  exact wpAny_mono (q3.store hx hm (hr _ _ _ _ _ _ p3)) (fun _ s4 h4 => ⟨rfl, ls, h4⟩) fun _ _ q => q
theorem tt_str {e : Expr} {x : Str} (h : EE w A ns σ e (S x)) (hz : (x.length : Int) < 9223372036854775808) (he : ∀ env whole, isTrue e env whole = (do let v ← whole; standAt e.pos; holding [v] (truthy v)) := by intro _ _; rfl) : TT w A ns σ e ((x.length : Int) != 0) := .mk <| fun env M g ho hv s u c =>
  wpAny_isTrue_value ((h.run env M g ho hv).use u c fun v s1 k1 c1 p1 => by
    obtain ⟨t, rfl⟩ := unS p1
    exact SBL.truthy hz ⟨Keeps.tok k1 _, rfl⟩) (he _ _)
theorem ee_neg {i : Int} {e : Expr} {pos : Pos} (h : EE w A ns σ e (I i)) : EE w A ns σ (.UnaryOp .USub e pos) (I (-i)) := .mk <| fun env M g ho hv s u c =>
  wpAny_UnaryOp ((h.run env M g ho hv).use u c fun v s1 k1 c1 p1 => by
    obtain ⟨t, rfl⟩ := unI p1
    exact PyProof.Rows.neg_int ⟨Keeps.tok k1 _, isD_int⟩)
theorem lookup_kind (h : EnvOk env ns) (x : Str) : env.kindOf x = ns.lookup x := by unfold Env.kindOf; rw [h.n]
noncomputable def NoStar (es : List Expr) : Prop := ∀ e ∈ es, ∀ v p, e ≠ .Starred v p
theorem swapped2 {x y : Str} {p q : Pos} {k k2 : Nat} {r r2 : Pos} {e1 e2 : Expr} (h : EnvOk env ns) (hx : ns.lookup x = some .local) (hy : ns.lookup y = some .local) (hne : x ≠ y) (hl : q.line = p.line)
    (h1 : NoStar [e1, e2]) (h2 : [e1, e2].all (foldedForSure 8) = false) (h3 : [e1, e2].all (constantsAlone 8) = false) :
    swappedStores [.Tuple [.Name x p, .Name y q] k r] (.Tuple [e1, e2] k2 r2) env = pure (some [x, y]) := by
  have hk1 := lookup_kind h x
  have hk2 := lookup_kind h y
  rw [hx] at hk1; rw [hy] at hk2
  have hb : (env.blockKind != .function) = false := by unfold Env.blockKind; rw [h.k]; rfl
  have hne' : (y == x) = false := by simpa using fun e => hne e.symm
  unfold swappedStores
  simp only [hb, h2, h3, List.length_cons, List.length_nil, List.head?_cons, Option.map_some, Option.getD_some, Expr.pos, List.filterMap_cons, List.filterMap_nil, hk1, hk2, hl]
  simp [hne', List.eraseDups_cons, List.filter]
  intro hd
  exfalso
  rcases hd with hd | hd
  · cases e1 with
    | Starred v p => exact absurd rfl (h1 _ (by simp) v p)
    | _ => exact Bool.noConfusion hd
  · cases e2 with
    | Starred v p => exact absurd rfl (h1 _ (by simp) v p)
    | _ => exact Bool.noConfusion hd
theorem swapped3 {x y z : Str} {p q u : Pos} {k k2 : Nat} {r r2 : Pos} {e1 e2 e3 : Expr} (h : EnvOk env ns) (hx : ns.lookup x = some .local) (hy : ns.lookup y = some .local) (hz : ns.lookup z = some .local) (h12 : x ≠ y) (h13 : x ≠ z) (h23 : y ≠ z) (hl : q.line = p.line) (hl2 : u.line = p.line)
    (h1 : NoStar [e1, e2, e3]) (h2 : [e1, e2, e3].all (foldedForSure 8) = false) (h3 : [e1, e2, e3].all (constantsAlone 8) = false) :
    swappedStores [.Tuple [.Name x p, .Name y q, .Name z u] k r] (.Tuple [e1, e2, e3] k2 r2) env = pure (some [x, y, z]) := by
  have hk1 := lookup_kind h x
  have hk2 := lookup_kind h y
  have hk3 := lookup_kind h z
  rw [hx] at hk1; rw [hy] at hk2; rw [hz] at hk3
  have hb : (env.blockKind != .function) = false := by unfold Env.blockKind; rw [h.k]; rfl
  have n1 : (y == x) = false := by simpa using fun e => h12 e.symm
  have n2 : (z == x) = false := by simpa using fun e => h13 e.symm
  have n3 : (z == y) = false := by simpa using fun e => h23 e.symm
  unfold swappedStores
  simp only [hb, h2, h3, List.length_cons, List.length_nil, List.head?_cons, Option.map_some, Option.getD_some, Expr.pos, List.filterMap_cons, List.filterMap_nil, hk1, hk2, hk3, hl, hl2]
  simp [n1, n2, n3, List.eraseDups_cons, List.filter]
  intro hd
  exfalso
  rcases hd with hd | hd | hd
  · cases e1 with
    | Starred v p => exact absurd rfl (h1 _ (by simp) v p)
    | _ => exact Bool.noConfusion hd
  · cases e2 with
    | Starred v p => exact absurd rfl (h1 _ (by simp) v p)
    | _ => exact Bool.noConfusion hd
  · cases e3 with
    | Starred v p => exact absurd rfl (h1 _ (by simp) v p)
    | _ => exact Bool.noConfusion hd
theorem wp_swap {names : List Str} {es elts : List Expr} {k k2 : Nat} {r r2 pos : Pos} {Q : Flow → Shared → Prop} {E : Value → Shared → Prop} (hh : A.handled = none)
    (h : wpAny (model pg w) A (spliced (es.map fun e => (false, eval e env))) (fun vs s1 => vs.length = names.length ∧ vs.length ≤ sizeLine ∧ ∀ h', Up s1.heap h' → wpAny (model pg w) A (assignInOrder (names.reverse.map fun n => bindName env n) vs.reverse) (fun _ => Q .next) E { s1 with heap := h' }) E s)
    (hw : swappedStores [.Tuple elts k r] (.Tuple es k2 r2) env = pure (some names)) (hs : starEach es env = es.map fun e => (false, eval e env)) :
    wpAny (model pg w) A (exec (.Assign [.Tuple elts k r] (.Tuple es k2 r2) pos) env) Q E s := by
  refine Assign_Tuple_swapped (wpAny_Tuple ?_) rfl hw
  rw [hs, backTo_plain]
  refine wpAny_mono h (fun vs s1 ⟨hl, hz, hr⟩ => ⟨hz, ?_⟩) fun _ _ q => q
  have hsz : names.length = vs.toArray.size := by simp [hl]
  rw [hsz]
  refine wpAny_unpackItems_tuple hh ⟨_, Heap.get?_push_size _ rfl, rfl, _, rfl⟩ fun h' hs' => ?_
  refine hr h' fun t o e => ?_
  have e1 := Up.push s1.heap { cls := .type "tuple", data := .seq vs.toArray } t o e
  exact hs' t o (Nat.ne_of_lt (Heap.lt_size e1)) e1
theorem ST.store' (h : ST w A b env Mc ls ns σ ms s) {x : Str} {d : D} {v : Value} (hx : stoOk ns x = true) (hm : ms.lookup x = none) (hv : IsD pg w (env.locals :: ls.map (·.2) ++ Mc) s.heap d v) :
    wpAny (model pg w) A (storeName env x v) (fun _ s' => ST w A b env Mc ls ns ((x, d) :: σ) ms s' ∧ Stays (env.locals :: ls.map (·.2) ++ Mc) (env.locals :: ls.map (·.2) ++ Mc) s.heap s'.heap) (fun _ _ => False) s := by
  obtain ⟨m, F, hv', hl⟩ := h.st
  refine wpAny_mono (wpAny_toks (wp_store (Q := fun _ s' => FRM env (env.cells.map (·.2)) (setm m x v) s'.heap ∧ Chg (env.locals :: env.cells.map (·.2)) s s') (E := fun _ _ => False) F h.ok.k (h.sto hx) fun s' F' k => ⟨F', k⟩)) (fun _ s' q => ?_) fun _ _ q => q.2.elim
  obtain ⟨tk, F', k⟩ := q
  have st := F.stays (M := env.locals :: ls.map (·.2) ++ Mc) k.h (by simp)
  refine ⟨⟨h.ok, h.cc, Chg.keeps ((Keeps.chg h.kp).trs k) h.oc_none, F'.chgx h.cx k (by simp) tk, h.fr, h.nd, _, F', fun y e he => ?_, fun y ds he => ?_⟩, st⟩
  · rw [List.lookup_cons] at he
    cases hb : y == x with
    | true =>
      rw [hb] at he
      cases he
      obtain rfl := beq_iff_eq.mp hb
      exact ⟨h.knd hx, v, by simp [setm], hv.stays st⟩
    | false =>
      rw [hb] at he
      obtain ⟨q, u, h1, h2⟩ := hv' y e he
      exact ⟨q, u, by unfold setm; rw [if_neg (by simpa using hb)]; exact h1, h2.stays st⟩
  · obtain ⟨q, a, vs, h1, h2, h3, h4⟩ := hl y ds he
    refine ⟨q, a, vs, h1, ?_, h3.at fun o e => k.h _ _ (F.notSeq h3) e, h4.stays st⟩
    unfold setm
    rw [if_neg (fun e => by subst e; rw [hm] at he; cases he)]
    exact h2
theorem ST.storeList' (h : ST w A b env Mc ls ns σ ms s) {x : Str} {a : Addr} {ds : List PyData} {vs : Array Value} (hx : stoOk ns x = true) (hm : ms.lookup x = none) (hσ : σ.lookup x = none) (ha : ls.lookup x = some a) (hp : s.heap.PlainList a vs) (hall : IsAll (env.locals :: ls.map (·.2) ++ Mc) s.heap ds vs.toList) :
    wpAny (model pg w) A (storeName env x (.ref a)) (fun _ s' => ST w A b env Mc ls ns σ ((x, ds) :: ms) s' ∧ Stays (env.locals :: ls.map (·.2) ++ Mc) (env.locals :: ls.map (·.2) ++ Mc) s.heap s'.heap ∧ ∀ a vs, s.heap.PlainList a vs → s'.heap.PlainList a vs) (fun _ _ => False) s := by
  obtain ⟨m, F, hv', hl⟩ := h.st
  refine wpAny_mono (wpAny_toks (wp_store (Q := fun _ s' => FRM env (env.cells.map (·.2)) (setm m x (.ref a)) s'.heap ∧ Chg (env.locals :: env.cells.map (·.2)) s s') (E := fun _ _ => False) F h.ok.k (h.sto hx) fun s' F' k => ⟨F', k⟩)) (fun _ s' q => ?_) fun _ _ q => q.2.elim
  obtain ⟨tk, F', k⟩ := q
  have st := F.stays (M := env.locals :: ls.map (·.2) ++ Mc) k.h (by simp)
  refine ⟨⟨h.ok, h.cc, Chg.keeps ((Keeps.chg h.kp).trs k) h.oc_none, F'.chgx h.cx k (by simp) tk, h.fr, h.nd, _, F', fun y e he => ?_, fun y ds' he => ?_⟩, st, fun a vs hp => hp.at fun o e => k.h _ _ (F.notSeq hp) e⟩
  · obtain ⟨q, u, h1, h2⟩ := hv' y e he
    exact ⟨q, u, by unfold setm; rw [if_neg (fun e => by subst e; rw [hσ] at he; cases he)]; exact h1, h2.stays st⟩
  · rw [List.lookup_cons] at he
    cases hb : y == x with
    | true =>
      rw [hb] at he
      cases he
      obtain rfl := beq_iff_eq.mp hb
      exact ⟨h.knd hx, a, vs, ha, by simp [setm], hp.at fun o e => k.h _ _ (F.notSeq hp) e, hall.stays st⟩
    | false =>
      rw [hb] at he
      obtain ⟨q, a', vs', h1, h2, h3, h4⟩ := hl y ds' he
      exact ⟨q, a', vs', h1, by unfold setm; rw [if_neg (by simpa using hb)]; exact h2, h3.at fun o e => k.h _ _ (F.notSeq h3) e, h4.stays st⟩
theorem se_swap2 {x y : Str} {p q : Pos} {k k2 : Nat} {r r2 pos : Pos} {e1 e2 : Expr} {d1 d2 : D} (h1 : EE w A ns σ e1 d1) (h2 : EE w A ns σ e2 d2) (hx : ns.lookup x = some .local) (hy : ns.lookup y = some .local) (hne : x ≠ y) (hmx : ms.lookup x = none) (hmy : ms.lookup y = none)
    (hl : q.line = p.line := by rfl) (g1 : NoStar [e1, e2] := by intro e h v p q; simp at h; rcases h with rfl | rfl <;> cases q) (g2 : [e1, e2].all (foldedForSure 8) = false := by rfl) (g3 : [e1, e2].all (constantsAlone 8) = false := by rfl)
    (hs : ∀ env, starEach [e1, e2] env = [e1, e2].map fun e => (false, eval e env) := by intro _; rfl) :
    SE w A ns σ ms (.Assign [.Tuple [.Name x p, .Name y q] k r] (.Tuple [e1, e2] k2 r2) pos) (.nx ((x, d1) :: (y, d2) :: σ) ms) := .mk fun b env Mc ls s h => by
  refine wp_swap (names := [x, y]) h.cx.hh (((EEs.cons h1 (.cons h2 .nil)).run h.ok h.vok).use (Up.refl _) h.cx fun vs s1 k1 c1 p1 => ?_) (swapped2 h.ok hx hy hne hl g1 g2 g3) (hs env)
  obtain ⟨v1, v2, rfl, i1, i2⟩ := all2 p1
  refine ⟨rfl, by show 2 ≤ sizeLine; decide, fun h' u => ?_⟩
  have q1 : ST w A b env Mc ls ns σ ms { s1 with heap := h' } := h.keeps (Keeps.heap k1 (k := s1.toks) u) (c1.up u (Nat.le_refl _))
  show wpAny _ _ (do holding [v1] (bindName env y v2); assignInOrder [fun v => bindName env x v] [v1]) _ _ _
  refine wpAny_bind (wpAny_holding (wpAny_bindName (wpAny_mono (q1.store' (by simp [stoOk, hy]) hmy (i2.up u)) (fun _ s2 ⟨q2, st2⟩ => ?_) fun _ _ q => q.elim)))
  show wpAny _ _ (do holding [] (bindName env x v1); assignInOrder [] []) _ _ _
  exact wpAny_bind (wpAny_holding (wpAny_bindName (wpAny_mono (q2.store (by simp [stoOk, hx]) hmx ((i1.up u).stays st2)) (fun _ s3 q3 => wpAny_pure ⟨rfl, ls, q3⟩) fun _ _ q => q.elim)))
theorem se_swap3 {x y z : Str} {p q t : Pos} {k k2 : Nat} {r r2 pos : Pos} {e1 e2 e3 : Expr} {d1 d2 d3 : D} (h1 : EE w A ns σ e1 d1) (h2 : EE w A ns σ e2 d2) (h3 : EE w A ns σ e3 d3) (hx : ns.lookup x = some .local) (hy : ns.lookup y = some .local) (hz : ns.lookup z = some .local) (h12 : x ≠ y) (h13 : x ≠ z) (h23 : y ≠ z) (hmx : ms.lookup x = none) (hmy : ms.lookup y = none) (hmz : ms.lookup z = none)
    (hl : q.line = p.line := by rfl) (hl2 : t.line = p.line := by rfl) (g1 : NoStar [e1, e2, e3] := by intro e h v p q; simp at h; rcases h with rfl | rfl | rfl <;> cases q) (g2 : [e1, e2, e3].all (foldedForSure 8) = false := by rfl) (g3 : [e1, e2, e3].all (constantsAlone 8) = false := by rfl)
    (hs : ∀ env, starEach [e1, e2, e3] env = [e1, e2, e3].map fun e => (false, eval e env) := by intro _; rfl) :
    SE w A ns σ ms (.Assign [.Tuple [.Name x p, .Name y q, .Name z t] k r] (.Tuple [e1, e2, e3] k2 r2) pos) (.nx ((x, d1) :: (y, d2) :: (z, d3) :: σ) ms) := .mk fun b env Mc ls s h => by
  refine wp_swap (names := [x, y, z]) h.cx.hh (((EEs.cons h1 (.cons h2 (.cons h3 .nil))).run h.ok h.vok).use (Up.refl _) h.cx fun vs s1 k1 c1 p1 => ?_) (swapped3 h.ok hx hy hz h12 h13 h23 hl hl2 g1 g2 g3) (hs env)
  obtain ⟨v1, v2, v3, rfl, i1, i2, i3⟩ := all3 p1
  refine ⟨rfl, by show 3 ≤ sizeLine; decide, fun h' u => ?_⟩
  have q1 : ST w A b env Mc ls ns σ ms { s1 with heap := h' } := h.keeps (Keeps.heap k1 (k := s1.toks) u) (c1.up u (Nat.le_refl _))
  show wpAny _ _ (do holding [v2, v1] (bindName env z v3); assignInOrder [fun v => bindName env y v, fun v => bindName env x v] [v2, v1]) _ _ _
  refine wpAny_bind (wpAny_holding (wpAny_bindName (wpAny_mono (q1.store' (by simp [stoOk, hz]) hmz (i3.up u)) (fun _ s2 ⟨q2, st2⟩ => ?_) fun _ _ q => q.elim)))
  show wpAny _ _ (do holding [v1] (bindName env y v2); assignInOrder [fun v => bindName env x v] [v1]) _ _ _
  refine wpAny_bind (wpAny_holding (wpAny_bindName (wpAny_mono (q2.store' (by simp [stoOk, hy]) hmy ((i2.up u).stays st2)) (fun _ s3 ⟨q3, st3⟩ => ?_) fun _ _ q => q.elim)))
  show wpAny _ _ (do holding [] (bindName env x v1); assignInOrder [] []) _ _ _
  exact wpAny_bind (wpAny_holding (wpAny_bindName (wpAny_mono (q3.store (by simp [stoOk, hx]) hmx (((i1.up u).stays st2).stays st3)) (fun _ s4 q4 => wpAny_pure ⟨rfl, ls, q4⟩) fun _ _ q => q.elim)))
theorem se_swap_new {x y : Str} {p q : Pos} {k k2 : Nat} {r r2 pos : Pos} {e1 e2 : Expr} {ds1 ds2 : List PyData} (h1 : EN w A ns σ e1 ds1) (h2 : EN w A ns σ e2 ds2) (hx : ns.lookup x = some .local) (hy : ns.lookup y = some .local) (hne : x ≠ y) (hmx : ms.lookup x = none) (hmy : ms.lookup y = none) (hσx : σ.lookup x = none) (hσy : σ.lookup y = none)
    (hl : q.line = p.line := by rfl) (g1 : NoStar [e1, e2] := by intro e h v p q; simp at h; rcases h with rfl | rfl <;> cases q) (g2 : [e1, e2].all (foldedForSure 8) = false := by rfl) (g3 : [e1, e2].all (constantsAlone 8) = false := by rfl)
    (hs : ∀ env, starEach [e1, e2] env = [e1, e2].map fun e => (false, eval e env) := by intro _; rfl) :
    SE w A ns σ ms (.Assign [.Tuple [.Name x p, .Name y q] k r] (.Tuple [e1, e2] k2 r2) pos) (.nx σ ((x, ds1) :: (y, ds2) :: ms)) := .mk fun b env Mc ls s h => by
  have hxy : (x == y) = false := by simpa using hne
  refine wp_swap (names := [x, y]) h.cx.hh (Calls.spliced_cons (h1.use h.ok h.vok h.cx fun a1 vs1 s1 k1 c1 f1 f2 f3 f4 => ?_)) (swapped2 h.ok hx hy hne hl g1 g2 g3) (hs env)
  have q1 : ST w A b env Mc ((x, a1) :: ls) ns σ ms s1 := h.reserve' k1 c1 f1 f3 f2 hmx
  refine Calls.spliced_cons (h2.use q1.ok q1.vok q1.cx fun a2 vs2 s2 k2' c2 e1 e2 e3 e4 => Calls.spliced_nil ?_)
  have q2 : ST w A b env Mc ((y, a2) :: (x, a1) :: ls) ns σ ms s2 := q1.reserve' k2' c2 e1 e3 e2 hmy
  refine ⟨rfl, by show 2 ≤ sizeLine; decide, fun h' u => ?_⟩
  have q3 : ST w A b env Mc ((y, a2) :: (x, a1) :: ls) ns σ ms { s2 with heap := h' } := q2.keeps (Keeps.heap (Keeps.rfl s2) (k := s2.toks) u) (q2.cx.up u (Nat.le_refl _))
  have p1 : h'.PlainList a1 vs1 := f3.at fun o e => u _ _ (Keeps.upto k2' _ _ e)
  have p2 : h'.PlainList a2 vs2 := e3.at fun o e => u _ _ e
  have i2 : IsAll (env.locals :: ((y, a2) :: (x, a1) :: ls).map (·.2) ++ Mc) h' ds2 vs2.toList := (own_weak e4).up u
  have i1 : IsAll (env.locals :: ((y, a2) :: (x, a1) :: ls).map (·.2) ++ Mc) h' ds1 vs1.toList := (own_weak (isAll_fresh (own_weak f4 : IsAll (env.locals :: ((x, a1) :: ls).map (·.2) ++ Mc) _ _ _) (Keeps.upto k2') e1)).up u
  show wpAny _ _ (do holding [.ref a1] (bindName env y (.ref a2)); assignInOrder [fun v => bindName env x v] [.ref a1]) _ _ _
  refine wpAny_bind (wpAny_holding (wpAny_bindName (wpAny_mono (q3.storeList' (by simp [stoOk, hy]) hmy hσy (by simp) p2 i2) (fun _ s3 ⟨q4, st4, pl⟩ => ?_) fun _ _ q => q.elim)))
  show wpAny _ _ (do holding [] (bindName env x (.ref a1)); assignInOrder [] []) _ _ _
  exact wpAny_bind (wpAny_holding (wpAny_bindName (wpAny_mono (q4.storeList (by simp [stoOk, hx]) (by simp [List.lookup_cons, hxy, hmx]) hσx (by simp [List.lookup_cons, hxy]) (pl _ _ p1) (i1.stays st4)) (fun _ s4 q5 => wpAny_pure ⟨rfl, _, q5⟩) fun _ _ q => q.elim)))
/-- a plain assignment to more names -/
theorem se_tuple {t : Expr} {e : Expr} {pos : Pos} {d : D} {β : Sg} (he : EE w A ns σ e d) (ht : TgtN ns t d β) (hm : ∀ q ∈ β, ms.lookup q.1 = none)
    (hA : ∀ env Q, EnvOk env ns → ∀ s, wpAny (model pg w) A (eval e env) (fun v s₁ => wpAny (model pg w) A (assign t env v) (fun _ => Q .next) (fun _ _ => False) s₁) (fun _ _ => False) s → wpAny (model pg w) A (exec (.Assign [t] e pos) env) Q (fun _ _ => False) s) :
    SE w A ns σ ms (.Assign [t] e pos) (.nx (β ++ σ) ms) := .mk fun b env Mc ls s h =>
  hA env _ h.ok s ((he.run env _ _ h.ok h.vok).use (Up.refl _) h.cx fun v s1 k1 c1 p1 => wpAny_mono ((h.keeps k1 c1).assign ht hm p1) (fun _ s2 h2 => ⟨rfl, ls, h2.1⟩) fun _ _ q => q)
end
end Mine
-- F15
namespace Mine
section
variable {w : World} {A : Around} {b : Shared} {env : Env} {M : List Addr} {Mc : List Addr} {ls : List (Str × Addr)} {ns : List (Str × NameKind)} {σ σ' : Sg} {ms ms' : Ms} {s : Shared} {o : Out}

/-- the tree of a comprehension, with what is done with its value -/
noncomputable def compTree (e : Expr) (env : Env) (u : Option (Value → Sem Unit)) : Sem Value := match e with
  | .ListComp _ gens scope pos => comprehension e scope env (firstIterPos gens pos) (newList []) (firstAsync gens) (firstIter gens env) u
  | .DictComp _ _ gens scope pos => comprehension e scope env (firstIterPos gens pos) newDict (firstAsync gens) (firstIter gens env) u
  | _ => pure .none
/-- a comprehension's value -/
structure CE (w : World) (A : Around) (ns : List (Str × NameKind)) (σ : Sg) (e : Expr) (d : D) : Prop where
  run : ∀ env M s (u : Option (Value → Sem Unit)) (Q : Value → Shared → Prop) (E : Value → Shared → Prop), EnvOk env ns → VarsOk w M s.heap env σ → CX w A M s →
    (∀ a C s', Keeps s s' → CX w A (C :: M) s' → s.heap.get? C = none → C ∉ M → IsD pg w (C :: M) s'.heap d (.ref a) → (∃ m, s'.heap.Ns C m) → compPost (model pg w) A E u Q (.ref a) C (.ok .next) s') → wpAny (model pg w) A (compTree e env u) Q E s
theorem ce_list {elt target iter : Expr} {ifs : List Expr} {scope : Scope} {pos : Pos} {ds : List D} (β : D → Sg) (p : D → Bool) (f : D → PyData) (σ' : Sg)
    (hi : ITER w A ns σ iter ds)
    (ht : ∀ d ∈ ds, TgtS scope.names target d (β d))
    (hif : ∀ d ∈ ds, TTs w A (rel ns scope.names) (β d ++ σ') ifs (p d))
    (hel : ∀ d ∈ ds, p d = true → EE w A (rel ns scope.names) (β d ++ σ') elt (.d (f d)))
    (hσ : ∀ q ∈ σ', (q.1, NameKind.free) ∈ scope.names ∧ σ.lookup q.1 = some q.2)
    (hc : compOk ns scope.names (σ.map (·.1)) = true) (hsk : scope.kind = .function := by rfl) (hz : ds.length ≤ sizeLine := by first | decide | (simp only [List.length_cons, List.length_nil]; decide))
    (hs : ∀ env x, foldedSetIterable iter env x = pure x := by intro _ _; rfl) : CE w A ns σ (.ListComp elt [⟨target, iter, ifs, 0⟩] scope pos) (L ((ds.filter p).map f)) := .mk <| fun env M s u Q E he hv c k => by
  obtain ⟨hclos, hnames⟩ := comp_hyps (scope := scope) he hv hc
  show wpAny _ A (comprehension (.ListComp elt [⟨target, iter, ifs, 0⟩] scope pos) scope env (firstIterPos [⟨target, iter, ifs, 0⟩] pos) (newList []) false (eval iter env) u) Q E s
  refine wpAny_comprehension_free (use := u) (g := ⟨target, iter, ifs, 0⟩) (gs := []) rfl (hs env) hclos hsk hnames (hi.run env M s.heap _ _ s he hv (Up.refl _) c fun s2 J fp wr P St k2 c2 W => ?_)
  exact comp_list_any β p f σ' he hv (Up.refl _) k2 c2 W hsk hc hσ ht hif hel hz fun a C s' k' c' hC hCM hd hn => k a C s' k' c' hC hCM hd hn
section
variable {kx vx target iter : Expr} {scope : Scope} {pos : Pos} {ds : List D} (β : D → Sg) (σ' : Sg)
theorem ce_imap (key : D → Int) (val : D → Str) (hi : ITER w A ns σ iter ds) (ht : ∀ d ∈ ds, TgtS scope.names target d (β d))
    (hkx : ∀ d ∈ ds, EE w A (rel ns scope.names) (β d ++ σ') kx (I (key d))) (hvx : ∀ d ∈ ds, EE w A (rel ns scope.names) (β d ++ σ') vx (S (val d)))
    (hσ : ∀ q ∈ σ', (q.1, NameKind.free) ∈ scope.names ∧ σ.lookup q.1 = some q.2)
    (hc : compOk ns scope.names (σ.map (·.1)) = true) (hsk : scope.kind = .function := by rfl) (hz : ds.length ≤ sizeLine := by first | decide | (simp only [List.length_cons, List.length_nil]; decide))
    (hs : ∀ env x, foldedSetIterable iter env x = pure x := by intro _ _; rfl) : CE w A ns σ (.DictComp kx vx [⟨target, iter, [], 0⟩] scope pos) (.imap (lkD key val ds)) := .mk <| fun env M s u Q E he hv c k => by
  obtain ⟨hclos, hnames⟩ := comp_hyps (scope := scope) he hv hc
  show wpAny _ A (comprehension (.DictComp kx vx [⟨target, iter, [], 0⟩] scope pos) scope env (firstIterPos [⟨target, iter, [], 0⟩] pos) newDict false (eval iter env) u) Q E s
  refine wpAny_comprehension_free (use := u) (g := ⟨target, iter, [], 0⟩) (gs := []) rfl (hs env) hclos hsk hnames (hi.run env M s.heap _ _ s he hv (Up.refl _) c fun s2 J fp wr P St k2 c2 W => ?_)
  refine comp_dict_any (intKind pg w) (fun _ _ x u => ∃ t, u = .str x t) key val β σ' (fun _ _ _ _ _ _ h _ => h) he hv (Up.refl _) k2 c2 W hsk hc hσ ht (fun d hd env M g he hv => ((hkx d hd).run env M g he hv).mono fun s v _ _ h => ?_) (fun d hd env M g he hv => ((hvx d hd).run env M g he hv).mono fun s v _ _ h => unS h) hz
    fun a C s' k' c' hC hCM ha1 ha2 ⟨F, hF, hk⟩ hn => k a C s' k' c' hC hCM ⟨a, F, rfl, ha1, ha2, hF, fun i => ?_⟩ hn
  · obtain ⟨t, rfl⟩ := unI h
    exact intKind_is pg w _ t
  · have := hk i
    split at this <;> simp_all
    obtain ⟨u, h1, t, h2⟩ := this
    exact ⟨t, by rw [h1, h2]⟩
theorem ce_smap (key : D → Str) (val : D → PyData) (hi : ITER w A ns σ iter ds) (ht : ∀ d ∈ ds, TgtS scope.names target d (β d))
    (hkx : ∀ d ∈ ds, EE w A (rel ns scope.names) (β d ++ σ') kx (S (key d))) (hvx : ∀ d ∈ ds, EE w A (rel ns scope.names) (β d ++ σ') vx (.d (val d)))
    (hσ : ∀ q ∈ σ', (q.1, NameKind.free) ∈ scope.names ∧ σ.lookup q.1 = some q.2)
    (hc : compOk ns scope.names (σ.map (·.1)) = true) (hsk : scope.kind = .function := by rfl) (hz : ds.length ≤ sizeLine := by first | decide | (simp only [List.length_cons, List.length_nil]; decide))
    (hs : ∀ env x, foldedSetIterable iter env x = pure x := by intro _ _; rfl) : CE w A ns σ (.DictComp kx vx [⟨target, iter, [], 0⟩] scope pos) (.smap (lkD key val ds)) := .mk <| fun env M s u Q E he hv c k => by
  obtain ⟨hclos, hnames⟩ := comp_hyps (scope := scope) he hv hc
  show wpAny _ A (comprehension (.DictComp kx vx [⟨target, iter, [], 0⟩] scope pos) scope env (firstIterPos [⟨target, iter, [], 0⟩] pos) newDict false (eval iter env) u) Q E s
  refine wpAny_comprehension_free (use := u) (g := ⟨target, iter, [], 0⟩) (gs := []) rfl (hs env) hclos hsk hnames (hi.run env M s.heap _ _ s he hv (Up.refl _) c fun s2 J fp wr P St k2 c2 W => ?_)
  refine comp_dict_any (strKind pg w) (fun M h x u => Is M h x u) key val β σ' (fun _ _ _ _ _ _ h st => Is.stays st h) he hv (Up.refl _) k2 c2 W hsk hc hσ ht (fun d hd env M g he hv => ((hkx d hd).run env M g he hv).mono fun s v _ _ h => ?_) (fun d hd env M g he hv => ((hvx d hd).run env M g he hv).mono fun s v _ _ h => h) hz
    fun a C s' k' c' hC hCM ha1 ha2 ⟨F, hF, hk⟩ hn => k a C s' k' c' hC hCM ⟨a, F, rfl, ha1, ha2, hF, fun i => ?_⟩ hn
  · obtain ⟨t, rfl⟩ := unS h
    exact strKind_is pg w _ t
  · have := hk i
    split at this <;> simp_all
theorem ce_tmap (key : D → Int) (val : D → Str) (hi : ITER w A ns σ iter ds) (ht : ∀ d ∈ ds, TgtS scope.names target d (β d))
    (hkx : ∀ d ∈ ds, EE w A (rel ns scope.names) (β d ++ σ') kx (I (key d))) (hvx : ∀ d ∈ ds, EE w A (rel ns scope.names) (β d ++ σ') vx (.old (val d)))
    (hσ : ∀ q ∈ σ', (q.1, NameKind.free) ∈ scope.names ∧ σ.lookup q.1 = some q.2)
    (hc : compOk ns scope.names (σ.map (·.1)) = true) (hsk : scope.kind = .function := by rfl) (hz : ds.length ≤ sizeLine := by first | decide | (simp only [List.length_cons, List.length_nil]; decide))
    (hs : ∀ env x, foldedSetIterable iter env x = pure x := by intro _ _; rfl) : CE w A ns σ (.DictComp kx vx [⟨target, iter, [], 0⟩] scope pos) (.tmap (lkD key val ds)) := .mk <| fun env M s u Q E he hv c k => by
  obtain ⟨hclos, hnames⟩ := comp_hyps (scope := scope) he hv hc
  show wpAny _ A (comprehension (.DictComp kx vx [⟨target, iter, [], 0⟩] scope pos) scope env (firstIterPos [⟨target, iter, [], 0⟩] pos) newDict false (eval iter env) u) Q E s
  refine wpAny_comprehension_free (use := u) (g := ⟨target, iter, [], 0⟩) (gs := []) rfl (hs env) hclos hsk hnames (hi.run env M s.heap _ _ s he hv (Up.refl _) c fun s2 J fp wr P St k2 c2 W => ?_)
  refine comp_dict_any (intKind pg w) (fun _ _ x u => ∃ t, u = .str x t ∧ t ≠ 0 ∧ t < 630) key val β σ' (fun _ _ _ _ _ _ h _ => h) he hv (Up.refl _) k2 c2 W hsk hc hσ ht (fun d hd env M g he hv => ((hkx d hd).run env M g he hv).mono fun s v _ _ h => ?_) (fun d hd env M g he hv => ((hvx d hd).run env M g he hv).mono fun s v _ _ h => h) hz
    fun a C s' k' c' hC hCM ha1 ha2 ⟨F, hF, hk⟩ hn => k a C s' k' c' hC hCM ⟨a, F, rfl, ha1, ha2, hF, fun i => ?_⟩ hn
  · obtain ⟨t, rfl⟩ := unI h
    exact intKind_is pg w _ t
  · have := hk i
    split at this <;> simp_all
    obtain ⟨u, h1, t, h2, h3⟩ := this
    exact ⟨t, by rw [h1, h2], h3⟩
end
theorem ce_ee {e : Expr} {d : D} (h : CE w A ns σ e d) (he : ∀ env, eval e env = compTree e env none := by intro _; rfl) : EE w A ns σ e d := .mk <| fun env M g ho hv s u c => by
  rw [he]
  refine h.run env M s none _ _ ho (hv.up u) c fun a C s' k' c' hC hCM hd ⟨m, hn⟩ => ⟨m, hn, fun h' hs' => ⟨?_, ?_⟩⟩
  · exact Chg.keeps (T := [C]) ((Keeps.chg k').trs ⟨h', s'.toks, rfl, sameBut_chg hs'⟩) (by simpa using hC)
  · exact IsD.weak (IsD.stays ((sameBut_chg hs').stays fun t ht => .inl (by simp at ht; simp [ht])) hd) fun t ht => by simp [ht]
/-- the state under a comprehension's own frame C -/
theorem ST.under {C : Addr} {s' : Shared} (h : ST w A b env Mc ls ns σ ms s) (k : Keeps s s') (c : CX w A (C :: (env.locals :: ls.map (·.2) ++ Mc)) s') (hC : s.heap.get? C = none) : ST w A b env (C :: Mc) ls ns σ ms s' := by
  obtain ⟨m, F, hv, hl⟩ := h.st
  have st : Stays (env.locals :: ls.map (·.2) ++ Mc) (env.locals :: ls.map (·.2) ++ C :: Mc) s.heap s'.heap := fun t o ht _ e => ⟨Keeps.upto k _ _ e, fun q => by
    simp only [List.cons_append, List.mem_cons, List.mem_append] at q
    rcases q with q | q | q | q
    · exact ht (by simp [q])
    · exact ht (by simp only [List.cons_append, List.mem_cons, List.mem_append]; exact .inr (.inl q))
    · subst q; rw [hC] at e; cases e
    · exact ht (by simp [q])⟩
  refine ⟨h.ok, h.cc, Keeps.tr h.kp k, c.weak fun t ht => ?_, fun t ht => ⟨(h.fr t ht).1, fun q => ?_⟩, h.nd, m, F.up (Keeps.upto k), fun x d e => let ⟨q, v, h1, h2⟩ := hv x d e; ⟨q, v, h1, h2.stays st⟩,
    fun x ds e => let ⟨q, a, vs, h1, h2, h3, h4⟩ := hl x ds e; ⟨q, a, vs, h1, h2, h3.at fun o e => Keeps.upto k _ _ e, h4.stays st⟩⟩
  · simp only [List.cons_append, List.mem_cons, List.mem_append] at ht ⊢
    rcases ht with ht | ht | ht | ht <;> simp [ht]
  · rcases List.mem_cons.mp q with q | q
    · subst q
      have : ∃ o, s.heap.get? t = some o := by
        rcases List.mem_append.mp ht with ht | ht
        · exact F.live t ht
        · exact (h.cx.live t (by simp only [List.cons_append, List.mem_cons, List.mem_append]; exact .inr (.inl ht))).2
      obtain ⟨o, e⟩ := this
      rw [hC] at e; cases e
    · exact (h.fr t ht).2 q
theorem ST.drop {C : Addr} {h' : Heap} (h : ST w A b env (C :: Mc) ls ns σ ms s) (hs : Heap.SameBut C s.heap h') (hb : b.heap.get? C = none) (hCM : C ∉ Mc) : ST w A b env Mc ls ns σ ms { s with heap := h' } := by
  obtain ⟨m, F, hv, hl⟩ := h.st
  have ch : ChgH [C] s.heap h' := sameBut_chg hs
  have hCown : C ∉ env.locals :: env.cells.map (·.2) ++ ls.map (·.2) := fun q => (h.fr C q).2 (by simp)
  have st : Stays (env.locals :: ls.map (·.2) ++ C :: Mc) (env.locals :: ls.map (·.2) ++ C :: Mc) s.heap h' := ch.stays fun t ht => .inl (by obtain rfl := List.mem_singleton.mp ht; simp)
  have hw : ∀ t ∈ env.locals :: ls.map (·.2) ++ Mc, t ∈ env.locals :: ls.map (·.2) ++ C :: Mc := fun t ht => by
    simp only [List.cons_append, List.mem_cons, List.mem_append] at ht ⊢
    rcases ht with ht | ht | ht <;> simp [ht]
  have chg : Chg [C] s { s with heap := h' } := ⟨h', s.toks, rfl, ch⟩
  refine ⟨h.ok, h.cc, Chg.keeps ((Keeps.chg h.kp).trs chg) (fun t ht => by obtain rfl := List.mem_singleton.mp ht; exact hb), (h.cx.weak hw).chg chg (fun t ht => ?_) (Nat.le_refl _), fun t ht => ⟨(h.fr t ht).1, fun q => (h.fr t ht).2 (List.mem_cons_of_mem _ q)⟩, h.nd, m, F.chg ch (fun q => ?_) (fun y c e q => ?_),
    fun x d e => let ⟨q, v, h1, h2⟩ := hv x d e; ⟨q, v, h1, (h2.stays st).weak hw⟩, fun x ds e => let ⟨q, a, vs, h1, h2, h3, h4⟩ := hl x ds e; ⟨q, a, vs, h1, h2, h3.at fun o e' => ch _ _ (fun z => ?_) e', (h4.stays st).weak hw⟩⟩
  · obtain rfl := List.mem_singleton.mp ht
    refine ⟨(h.cx.live t (by simp)).1, fun q => ?_⟩
    exfalso
    simp only [List.cons_append, List.mem_cons, List.mem_append] at q
    rcases q with q | q | q
    · exact hCown (by simp [q])
    · exact hCown (List.mem_append_right _ q)
    · exact hCM q
  · exact hCown (by have := List.mem_singleton.mp q; simp [this])
  · have := List.mem_singleton.mp q
    subst this
    exact hCown (List.mem_append_left _ (List.mem_cons_of_mem _ (List.mem_map.mpr ⟨_, mem_of_lookup e, rfl⟩)))
  · have := List.mem_singleton.mp z
    subst this
    exact hCown (List.mem_append_right _ (List.mem_map.mpr ⟨_, mem_of_lookup h1, rfl⟩))
/-- whose names hold x as their own -/
noncomputable def ownsName (e : Expr) (x : Str) : Bool := match e with
  | .ListComp _ _ s _ => s.names.any fun (n, k) => n == x && (k == .local || k == .cell)
  | .DictComp _ _ _ s _ => s.names.any fun (n, k) => n == x && (k == .local || k == .cell)
  | _ => true
noncomputable def isComp (e : Expr) : Bool := match e with
  | .ListComp .. => true
  | .DictComp .. => true
  | _ => false
theorem swaps_cell {e : Expr} {x : Str} {p : Pos} {l : Nat} (h : EnvOk env ns) (hx : ns.lookup x = some .cell) (hc : isComp e = true) : swapsWith e (some (.Name x p)) l env = pure false := by
  have hk := lookup_kind h x
  rw [hx] at hk
  cases e with
  | ListComp elt g sc ps =>
    show (pure (env.blockKind == .function && env.kindOf x == some .local && p.line == ps.line && !(sc.names.any fun (n, k) => n == x && (k == .local || k == .cell))) : Sem Bool) = pure false
    rw [hk, show (some NameKind.cell == some NameKind.local) = false from rfl, Bool.and_false, Bool.false_and, Bool.false_and]
  | DictComp k v g sc ps =>
    show (pure (env.blockKind == .function && env.kindOf x == some .local && p.line == ps.line && !(sc.names.any fun (n, k) => n == x && (k == .local || k == .cell))) : Sem Bool) = pure false
    rw [hk, show (some NameKind.cell == some NameKind.local) = false from rfl, Bool.and_false, Bool.false_and, Bool.false_and]
  | _ => cases hc
theorem swaps_local {e : Expr} {x : Str} {p : Pos} {l : Nat} (h : EnvOk env ns) (hx : ns.lookup x = some .local) (hc : isComp e = true) (hl : (p.line == e.pos.line) = true) (ho : ownsName e x = false) : swapsWith e (some (.Name x p)) l env = pure true := by
  have hk := lookup_kind h x
  rw [hx] at hk
  have hb : env.blockKind = .function := by unfold Env.blockKind; rw [h.k]; rfl
  cases e with
  | ListComp elt g sc ps =>
    have hl' : (p.line == ps.line) = true := hl
    have ho' : (sc.names.any fun (n, k) => n == x && (k == .local || k == .cell)) = false := ho
    show (pure (env.blockKind == .function && env.kindOf x == some .local && p.line == ps.line && !(sc.names.any fun (n, k) => n == x && (k == .local || k == .cell))) : Sem Bool) = pure true
    rw [hk, hb, hl', ho']; rfl
  | DictComp k v g sc ps =>
    have hl' : (p.line == ps.line) = true := hl
    have ho' : (sc.names.any fun (n, k) => n == x && (k == .local || k == .cell)) = false := ho
    show (pure (env.blockKind == .function && env.kindOf x == some .local && p.line == ps.line && !(sc.names.any fun (n, k) => n == x && (k == .local || k == .cell))) : Sem Bool) = pure true
    rw [hk, hb, hl', ho']; rfl
  | _ => cases hc
theorem evalThenUse_comp {e : Expr} {u : Value → Sem Unit} (hc : isComp e = true) : evalThenUse e env u = (do let _ ← compTree e env (some u); pure ()) := by
  cases e <;> first | rfl | cases hc
/-- a comprehension for a name of the frame -/
theorem se_comp {x : Str} {e : Expr} {p pos : Pos} {d : D} (he : CE w A ns σ e d) (hx : ns.lookup x = some .local) (hm : ms.lookup x = none) (hc : isComp e = true := by rfl) (hl : (p.line == e.pos.line) = true := by decide) (ho : ownsName e x = false := by decide) :
    SE w A ns σ ms (.Assign [.Name x p] e pos) (.nx ((x, d) :: σ) ms) := .mk fun b env Mc ls s h => by
  have hsto : stoOk ns x = true := by simp [stoOk, hx]
  rw [exec_Assign_Name_used _ _ _ _ (swaps_local h.ok hx hc hl ho)]
  refine wpAny_bind (wpAny_standAt (wpAny_bind ?_))
  rw [evalThenUse_comp hc]
  refine wpAny_bind (wpAny_mono (he.run env _ s (some (assign (.Name x p) env)) (fun _ s' => Post w A b env Mc ns (.nx ((x, d) :: σ) ms) .next s') _ h.ok h.vok h.cx fun a C s' k' c' hC hCM hd ⟨mC, hn⟩ => ?_) (fun _ s' hq => wpAny_pure (wpAny_pure hq)) fun _ _ q => q)
  have q1 := h.under k' c' hC
  have hd' : IsD pg w (env.locals :: ls.map (·.2) ++ C :: Mc) s'.heap d (.ref a) := hd.weak fun t ht => by
    simp only [List.cons_append, List.mem_cons, List.mem_append] at ht ⊢
    rcases ht with ht | ht | ht | ht <;> simp [ht]
  refine wpAny_mono (q1.assign (.name hsto) (fun q hq => by obtain rfl := List.mem_singleton.mp hq; exact hm) hd') (fun _ s2 ⟨q2, ch2⟩ => ?_) fun _ _ q => q.elim
  have hCo : C ∉ env.locals :: env.cells.map (·.2) := fun q => (q1.fr C (List.mem_append_left _ q)).2 (by simp)
  have hCM' : C ∉ Mc := fun q => hCM (by simp only [List.cons_append, List.mem_cons, List.mem_append]; exact .inr (.inr q))
  exact ⟨mC, hn.at' fun o e => ch2.h _ _ hCo e, fun h' hs' => ⟨rfl, ls, q2.drop hs' (none_down (Keeps.upto h.kp) hC) hCM'⟩⟩
theorem se_comp_cell {x : Str} {e : Expr} {p pos : Pos} {d : D} (he : CE w A ns σ e d) (hx : ns.lookup x = some .cell) (hm : ms.lookup x = none) (hc : isComp e = true := by rfl) (hev : ∀ env, eval e env = compTree e env none := by intro _; rfl) :
    SE w A ns σ ms (.Assign [.Name x p] e pos) (.nx ((x, d) :: σ) ms) := se_assign (ce_ee he hev) (by simp [stoOk, hx]) hm fun env h => swaps_cell h hx hc
end
end Mine
-- F16
namespace Mine
section
variable {w : World} {A : Around} {M : List Addr} {g : Heap} {env : Env} {ns : List (Str × NameKind)} {σ σ' : Sg} {s : Shared}
/-- a key iterator's step, with the key that the entry holds -/
theorem key_item {it d : Addr} {i n ep : Nat} {od : Obj} {es : Array DictEntry} {Q : Option Value → Shared → Prop} {E : Value → Shared → Prop} (hit : s.heap.IsKeyIter it d i n ep) (hod : s.heap.get? d = some od) (hdd : od.data = .dict es ep) (hsz : es.size = n) (hlt : i < es.size)
    (hQ : ∀ h', h'.IsKeyIter it d (i + 1) n ep → Heap.SameBut it s.heap h' → Q (some es[i].key) { s with heap := h' }) : wpAny (model pg w) A (pyNext (.ref it)) Q E s := by
  subst hsz
  obtain ⟨o, ho, hc, hd⟩ := id hit
  unfold pyNext
  refine wpAny_bind (wpAny_attempt (wpAny_callSpecial?_slot (name := Str.ofString "__next__") hit.typeIs F.slot_dict_keyiterator_next (wpAny_call_entry F.slot_dict_keyiterator_next hit.typeIs F.entry_dict_keyiterator_next ?_ (F.args_dict_keyiterator_next_1 _))))
  refine wpAny_bind (wpAny_pure (wpAny_bind (wpAny_bind ?_)))
  refine wpAny_bind (wpAny_typeNameOfWhole_keyiter hit.typeIs (wpAny_pure ?_))
  refine wpAny_bind (wpAny_fieldsOf ho hd ?_)
  simp only [show Builtin.Dict_items.ownsTuple "dict_keyiterator" = false by decide, Bool.false_eq_true, if_false]
  show wpAny _ _ (if (Value.ref d == Value.none) = true then _ else _) _ _ s
  rw [if_neg (show ¬ ((Value.ref d == Value.none) = true) from Bool.false_ne_true)]
  refine wpAny_bind (wpAny_pure (wpAny_bind (wpAny_dictEntries hod hdd ?_)))
  rw [if_neg (by simp)]
  refine wpAny_bind (wpAny_pure (wpAny_bind (wpAny_dictEpoch hod hdd ?_)))
  rw [if_neg (by simp)]
  refine wpAny_pure ?_
  simp only [show ¬ ((i : Int) < 0) from by omega, if_false, Int.toNat_natCast, Array.getElem?_eq_getElem hlt]
  refine wpAny_bind (wpAny_bind (wpAny_typeNameOfWhole_keyiter hit.typeIs (wpAny_pure ?_)))
  refine wpAny_bind (wpAny_isOneOf_keyiter hit.typeIs ?_)
  show wpAny _ _ (setField (.ref it) 1 (rawInt ((i : Int) + 1)) >>= _) _ _ s
  refine wpAny_bind (wpAny_setField ho hd (by simp) ?_)
  have hit' : (s.heap.update it (Obj.mapFields (·.setIfInBounds 1 (rawInt ((i : Int) + 1))))).IsKeyIter it d (i + 1) es.size ep :=
    ⟨_, Heap.get?_update_self _ ho (Obj.isFreed_of_fields (Obj.data_mapFields hd _)), (Obj.cls_mapFields ..).trans hc, by rw [Obj.data_mapFields hd]; simp [rawInt]⟩
  refine wpAny_bind (wpAny_holding (wpAny_bind (wpAny_isOneOf_keyiter (s := { s with heap := s.heap.update it (Obj.mapFields (·.setIfInBounds 1 (rawInt ((i : Int) + 1)))) }) hit'.typeIs ?_)))
  show wpAny _ _ (pure es[i].key) _ _ _
  exact wpAny_pure (wpAny_pure ⟨_, rfl, wpAny_pure (hQ _ hit' (Heap.SameBut.update ..))⟩)
theorem iter_toks {x : Str} {p : Pos} (hr : ns.lookup x = some .globalImplicit) (hx : x = Str.ofString "EXACT_TOKEN_TYPES") (hd : (x == ("__debug__" : Str)) = false := by decide) : ITER w A ns σ (.Name x p) (tokTab.map fun q => .old q.1) := .mk fun env M g Q E s he hv u c hQ => by
  subst hx
  refine ((eg_name (w := w) (A := A) hr (fun h G => G.ex.1) hd).run env M g he).use u c fun fv s1 k1 c1 p1 => ?_
  subst p1
  obtain ⟨_, kvs, ep, hat, hmap, hkeys, hvals, od, es, hod, hdd, htok⟩ := c1.G.ex
  obtain ⟨od', es', hod', hex, hdd', hk, hp, hnd⟩ := id hat
  rw [hod] at hod'; cases hod'
  rw [hdd] at hdd'; cases hdd'
  have hsz : es.size = kvs.length := by rw [← hp.length]; simp
  have hlen : kvs.length = tokTab.length := by have := congrArg List.length hkeys; simpa using this
  refine wpAny_pyIter_dict (by decide) hat ?_
  generalize hJ : s1.heap.objs.size = J
  have hne : (32 : Addr) ≠ J := by
    have h106 := c1.G.size
    rw [hJ] at h106
    exact fun e => absurd (e ▸ h106) (by decide)
  generalize hs2 : ({ s1 with heap := s1.heap.push { cls := .type "dict_keyiterator", data := .fields #[.ref 32, .int 0 0, .int kvs.length 0, .int ep 0] } } : Shared) = s2
  have k2 : Keeps s1 s2 := hs2 ▸ Keeps.push (Keeps.rfl s1) _
  have c2 : CX w A M s2 := c1.up (Keeps.upto k2) (by rw [← hs2]; exact Nat.le_refl _)
  have hod2 : s2.heap.get? 32 = some od := Keeps.upto k2 _ _ hod
  have hit : s2.heap.IsKeyIter J 32 0 kvs.length ep := ⟨_, by rw [← hs2, ← hJ]; exact Heap.get?_push_size _ rfl, rfl, rfl⟩
  refine hQ s2 J [J, 32] [J] (fun i v => ∃ x t, v = .str x t ∧ (tokTab[i]?).map (·.1) = some x ∧ t ≠ 0 ∧ t < 630) (fun i h => h.IsKeyIter J 32 i kvs.length ep ∧ h.get? 32 = some od) (Keeps.tr k1 k2) c2 ⟨⟨?_, ?_, ?_, ?_, ?_⟩, ⟨hit, hod2⟩, ?_, ?_, ?_, ?_, ?_, ?_⟩
  · intro b hb; simp at hb; simp [hb]
  · intro i h h' st hk; exact ⟨st.1.at fun o e => hk J (by simp) o e, hk 32 (by simp) _ st.2⟩
  · intro i s Q E hi st hQ
    rw [List.length_map, ← hlen, ← hsz] at hi
    refine key_item st.1 st.2 hdd hsz hi fun h' hit' hs' => ?_
    have h1 : es.toList[i]? = some es[i] := by simp [hi]
    have h2 : kvs[i]? = some kvs[i] := by simp [hsz ▸ hi]
    have hkey := (hp.get? (k := kvs[i].1) (v := kvs[i].2) h1 (by rw [h2])).1
    obtain ⟨t, ht⟩ := Value.isStrOf_shape hkey
    refine hQ _ h' s.toks ⟨kvs[i].1, t, ht, ?_, htok es[i] (by simp) _ _ ht⟩ ⟨hit', hs'.extBut 32 _ hne st.2⟩ fun b o hb e => hs'.extBut b o (fun h => hb (by simp [h])) e
    have := congrArg (fun l => l[i]?) hkeys
    simp only [List.getElem?_map, h2, Option.map_some] at this
    exact this.symm
  · intro s Q E st hQ
    rw [List.length_map, ← hlen] at st
    refine wpAny_pyNext_dict_end (knd := strKind pg w) (kvs := kvs) c1.hh st.1 ⟨od, es, st.2, hex, hdd, hk, hp, hnd⟩ (by simp) fun h' he' => hQ h' s.toks fun b o hb e => he' b o (fun h => hb (by simp [h])) e
  · intro i s Q E st hQ; exact wpAny_pyIter_keyiter st.1 hQ
  · intro b hb
    simp only [List.mem_cons, List.not_mem_nil, or_false] at hb
    rcases hb with rfl | rfl
    · obtain ⟨o, e, _⟩ := hit; exact ⟨o, e⟩
    · exact ⟨_, hod2⟩
  · intro b hb
    simp only [List.mem_cons, List.not_mem_nil, or_false] at hb ⊢
    rcases hb with rfl | rfl
    · exact .inl rfl
    · refine .inr ⟨c2.old (by decide), fun o e => ?_⟩
      rw [hod2] at e; cases e
      exact .inr ⟨_, _, hdd⟩
  · intro b hb
    obtain rfl := List.mem_singleton.mp hb
    exact ⟨none_down (Keeps.upto k1) (fresh_none (by omega)), hJ ▸ c1.new (Nat.le_refl _), hJ ▸ c1.G.size⟩
  · rintro i h ⟨⟨o, e, _, hd'⟩, _⟩ b hb
    obtain rfl := List.mem_singleton.mp hb
    exact ⟨o, e, fields_notKept hd'⟩
  · rintro i v _ ⟨x, t, rfl, hx, ht⟩
    cases ht' : tokTab[i]? with
    | none => rw [ht'] at hx; cases hx
    | some q =>
      rw [ht'] at hx
      obtain rfl : q.1 = x := by simpa using hx
      exact ⟨.old q.1, by simp [ht'], t, rfl, ht⟩
  · rintro i v elts kk pos s' Q' E' ⟨x, t, rfl, _⟩ st hq
    exact wpAny_pure hq
theorem iter_range3 {x : Str} {p pos : Pos} {a b e : Expr} {i j k : Int} {n : Nat} (hr : ns.lookup x = some .globalImplicit) (hx : x = Str.ofString "range") (ha : EE w A ns σ a (I i)) (hb : EE w A ns σ b (I j)) (he : EE w A ns σ e (I k)) (hk : k ≠ 0) (hpl : Builtin.divisionGoesByPylong (j - i) k = false) (hsm : Builtin.Range.small i j k = true) (hn : Builtin.Range.rangeSize i j k = n) (hd : (x == ("__debug__" : Str)) = false := by decide)
    (hs : ∀ env, starEach [a, b, e] env = [a, b, e].map fun e => (false, eval e env) := by intro _; rfl) : ITER w A ns σ (.Call (.Name x p) [a, b, e] [] pos) ((List.range n).map fun q : Nat => I (i + (q : Int) * k)) := .mk fun env M g Q E s ho hv u c hQ => by
  subst hx
  refine wpAny_Call_NameR (((eg_name (w := w) (A := A) hr (fun h G => G.range) hd).run env M g ho).use u c fun fv s1 k1 c1 p1 => ?_)
  subst p1
  rw [hs, backTo_plain]
  refine callWith_any (callee_type _) any_plain (Calls.evalArgs_plain ((((EEs.cons ha (.cons hb (.cons he .nil))).run ho hv).up (u.trans (Keeps.upto k1))).use (Up.refl _) c1 fun vs s2 k2 c2 p2 => ⟨Keeps.upto k2, ?_⟩)) c1.G
  obtain ⟨v1, v2, v3, rfl, h1, h2, h3⟩ := all3 p2
  obtain ⟨t1, rfl⟩ := unI h1
  obtain ⟨t2, rfl⟩ := unI h2
  obtain ⟨t3, rfl⟩ := unI h3
  refine call_range_3 hk ?_ (.inl hpl)
  refine iter_range_at (n := n) (Keeps.heap (Keeps.tr k1 k2) (Up.push _ _)) (c2.up (Up.push _ _) (Nat.le_refl _)) (IsRange.new s2.heap i j k _ _ _) hsm hn fun s3 J fp wr P St k c W => hQ s3 J fp wr P St k c W
end
end Mine
-- F17
namespace Mine
section
variable {w : World} {A : Around} {M : List Addr} {g : Heap} {env : Env} {ns : List (Str × NameKind)} {σ σ' : Sg} {s : Shared}
theorem glob_int {x : Str} {p : Pos} {i : Int} (hk : ns.lookup x = some .globalImplicit) (h : ∀ h, GL w h → ∃ t, GN h x (.int i t)) (hd : (x == ("__debug__" : Str)) = false := by decide) : EE w A ns σ (.Name x p) (I i) :=
  ee_glob hk (fun hp M G _ => let ⟨t, e⟩ := h hp G; ⟨_, e, isD_int⟩) hd
end
variable {w : World}
theorem isterminal {A : Around} {n : Nat} (hA : Dp (n + 1) A) (i : Int) : CALL w A (.ref 41) [I i] (B (decide (i < 256))) := by
  refine call_def (x := Str.ofString "ISTERMINAL") (k := 53) (a := 41) (ps := [Str.ofString "x"]) (n := n) (by decide +kernel) hA (fun pm cd doc vs hl => ?_) (by decide) rfl (by decide +kernel) (by decide +kernel) (fun A' hA' => ?_) rfl rfl rfl
  · obtain ⟨v, rfl⟩ := List.length_eq_one_iff.mp hl
    rfl
  · refine sx_ret (se_return (ee_cmp (ee_name rfl) (glob_int (by decide +kernel) fun h G => ?_) (cmp_lt i _)))
    exact G.nt
theorem isnonterminal {A : Around} {n : Nat} (hA : Dp (n + 1) A) (i : Int) : CALL w A (.ref 48) [I i] (B (decide (256 ≤ i))) := by
  refine call_def (x := Str.ofString "ISNONTERMINAL") (k := 54) (a := 48) (ps := [Str.ofString "x"]) (n := n) (by decide +kernel) hA (fun pm cd doc vs hl => ?_) (by decide) rfl (by decide +kernel) (by decide +kernel) (fun A' hA' => ?_) rfl rfl rfl
  · obtain ⟨v, rfl⟩ := List.length_eq_one_iff.mp hl
    rfl
  · refine sx_ret (se_return (ee_cmp (ee_name rfl) (glob_int (by decide +kernel) fun h G => ?_) (cmp_ge i _)))
    exact G.nt
theorem iseof {A : Around} {n : Nat} (hA : Dp (n + 1) A) (i : Int) : CALL w A (.ref 55) [I i] (B (i == 0)) := by
  refine call_def (x := Str.ofString "ISEOF") (k := 55) (a := 55) (ps := [Str.ofString "x"]) (n := n) (by decide +kernel) hA (fun pm cd doc vs hl => ?_) (by decide) rfl (by decide +kernel) (by decide +kernel) (fun A' hA' => ?_) rfl rfl rfl
  · obtain ⟨v, rfl⟩ := List.length_eq_one_iff.mp hl
    rfl
  · refine sx_ret (se_return (ee_cmp (ee_name rfl) (glob_int (by decide +kernel) fun h G => ?_) (cmp_eqi i _)))
    exact G.em
theorem eg_fn {A : Around} {ns : List (Str × NameKind)} {x : Str} {k a : Nat} {p : Pos} (hf : (x, k, a) ∈ ftab) (hk : ns.lookup x = some .globalImplicit) (hd : (x == ("__debug__" : Str)) = false := by decide) : EG w A ns (.Name x p) (.ref a) := eg_name hk (fun h G => (G.fn _ hf).1) hd
/-- a call of a def by its name -/
theorem ee_fn {A : Around} {ns : List (Str × NameKind)} {σ : Sg} {x : Str} {k a : Nat} {p pos : Pos} {e : Expr} {es : List Expr} {ds : List D} {d : D} (hf : (x, k, a) ∈ ftab) (hk : ns.lookup x = some .globalImplicit) (ha : EEs w A ns σ (e :: es) ds) (h : CALL w A (.ref a) ds d) (hd : (x == ("__debug__" : Str)) = false := by decide)
    (hs : ∀ env, starEach (e :: es) env = (e :: es).map fun e => (false, eval e env) := by intro _; rfl) : EE w A ns σ (.Call (.Name x p) (e :: es) [] pos) d := ee_call (eg_fn hf hk hd) (callee_ref hf) ha h hs
section
variable {A : Around} {ns : List (Str × NameKind)} {σ : Sg} {ms : Ms}
theorem se_for_ret {target iter : Expr} {body : List Stmt} {pos : Pos} {ds : List D} (β : D → Sg) (n : Nat) (hn : n < ds.length) (r : D) (σI : Nat → Sg) (mI : Nat → Ms)
    (hi : ITER w A ns σ iter ds) (ht : ∀ d ∈ ds, TgtN ns target d (β d)) (hm : ∀ i, ∀ d ∈ ds, ∀ q ∈ β d, (mI i).lookup q.1 = none)
    (h0 : ∀ x d, (σI 0).lookup x = some d → σ.lookup x = some d) (h0m : ∀ x d, (mI 0).lookup x = some d → ms.lookup x = some d)
    (hb : ∀ i d, ds[i]? = some d → i < n → SX w A ns (β d ++ σI i) (mI i) body (.nx (σI (i + 1)) (mI (i + 1))))
    (hr : ∀ d, ds[n]? = some d → SX w A ns (β d ++ σI n) (mI n) body (.rt r))
    (hs : ∀ env x, foldedSetIterable iter env x = pure x := by intro _ _; rfl) :
    SE w A ns σ ms (.For target iter body [] pos) (.rt r) := by
  have := se_for_core (pos := pos) (ms := ms) β n (Nat.le_of_lt hn) r σI mI hi ht hm h0 h0m hb hr hs
  rwa [if_neg (Nat.ne_of_lt hn)] at this
theorem se_for {target iter : Expr} {body : List Stmt} {pos : Pos} {ds : List D} (β : D → Sg) (σI : Nat → Sg) (mI : Nat → Ms)
    (hi : ITER w A ns σ iter ds) (ht : ∀ d ∈ ds, TgtN ns target d (β d)) (hm : ∀ i, ∀ d ∈ ds, ∀ q ∈ β d, (mI i).lookup q.1 = none)
    (h0 : ∀ x d, (σI 0).lookup x = some d → σ.lookup x = some d) (h0m : ∀ x d, (mI 0).lookup x = some d → ms.lookup x = some d)
    (hb : ∀ i d, ds[i]? = some d → SX w A ns (β d ++ σI i) (mI i) body (.nx (σI (i + 1)) (mI (i + 1))))
    (hs : ∀ env x, foldedSetIterable iter env x = pure x := by intro _ _; rfl) :
    SE w A ns σ ms (.For target iter body [] pos) (.nx (σI ds.length) (mI ds.length)) := by
  have := se_for_core (pos := pos) (ms := ms) β ds.length (Nat.le_refl _) (I 0) σI mI hi ht hm h0 h0m (fun i d h _ => hb i d h) (fun d h => by simp at h) hs
  rwa [if_pos rfl] at this
end
-- data that compare
/-- plain: no list in it, and its texts are texts -/
noncomputable def okd : PyData → Bool
  | .none | .bool _ | .int _ => true
  | .str x => PyData.strOk x
  | _ => false
theorem okd_lay {d : PyData} (h : okd d = true) : d.canLay0 = true ∧ d.depth = 0 := by
  cases d <;> simp_all [okd, PyData.canLay0, PyData.depth]
theorem okAll {ds : List PyData} (h : ∀ d ∈ ds, okd d = true) : PyData.canLayAll0 ds = true ∧ PyData.depthAll ds = 0 := by
  induction ds with
  | nil => exact ⟨rfl, rfl⟩
  | cons d r ih =>
    obtain ⟨a, b⟩ := okd_lay (h d (by simp))
    obtain ⟨c, e⟩ := ih fun x hx => h x (by simp [hx])
    exact ⟨by simp [PyData.canLayAll0, a, c], by simp [PyData.depthAll, b, e]⟩
theorem shaped_list {ds : List PyData} (h : ∀ d ∈ ds, okd d = true) : SeqAt.shaped (.list ds) = true := by
  obtain ⟨a, b⟩ := okAll h
  simp [SeqAt.shaped, PyData.canLay0, PyData.depth, a, b]
theorem shaped_strs {xs : List Str} (h : ∀ x ∈ xs, PyData.strOk x = true) : SeqAt.shaped (.list (xs.map .str)) = true := shaped_list fun d hd => by
  obtain ⟨x, hx, rfl⟩ := List.mem_map.mp hd
  exact h x hx
theorem shaped_none : SeqAt.shaped .none = true := by decide
theorem eqv_list_nil (ds : List PyData) : PyData.eqv (.list ds) (.list []) = ds.isEmpty := by cases ds <;> rfl
theorem eqvAll_strs : ∀ (xs ys : List Str), PyData.eqvAll (xs.map .str) (ys.map .str) = (xs == ys)
  | [], [] => rfl
  | [], _ :: _ => rfl
  | _ :: _, [] => rfl
  | x :: xs, y :: ys => by
    show (x == y && PyData.eqvAll (xs.map .str) (ys.map .str)) = _
    rw [eqvAll_strs xs ys]; rfl
theorem eqv_strs (xs ys : List Str) : PyData.eqv (.list (xs.map .str)) (.list (ys.map .str)) = (xs == ys) := eqvAll_strs xs ys
theorem eqvAll_bools : ∀ (xs ys : List Bool), PyData.eqvAll (xs.map .bool) (ys.map .bool) = (xs == ys)
  | [], [] => rfl
  | [], _ :: _ => rfl
  | _ :: _, [] => rfl
  | x :: xs, y :: ys => by
    show (x == y && PyData.eqvAll (xs.map .bool) (ys.map .bool)) = _
    rw [eqvAll_bools xs ys]; rfl
theorem eqv_bools (xs ys : List Bool) : PyData.eqv (.list (xs.map .bool)) (.list (ys.map .bool)) = (xs == ys) := eqvAll_bools xs ys
theorem mem_range_I {n : Nat} {d : D} (h : d ∈ (List.range n).map fun i : Nat => I i) : ∃ i : Nat, i < n ∧ d = I i := by
  obtain ⟨i, hi, rfl⟩ := List.mem_map.mp h
  exact ⟨i, by simpa using hi, rfl⟩
theorem mem_three {d : D} (h : d ∈ (List.range 3).map fun i : Nat => I i) : d = I 0 ∨ d = I 1 ∨ d = I 2 := by
  obtain ⟨i, hi, rfl⟩ := mem_range_I h
  have : i = 0 ∨ i = 1 ∨ i = 2 := by omega
  rcases this with rfl | rfl | rfl <;> simp
-- parts of the text, by their places
noncomputable def atS (l : List Stmt) (i : Nat) : Stmt := l.getD i (.Pass ⟨0, 0, 0, 0⟩)
noncomputable def inS : Stmt → List Stmt | .For _ _ b _ _ => b | .While _ b _ _ => b | .If _ b _ _ => b | _ => []
noncomputable def elS : Stmt → List Stmt | .If _ _ b _ => b | _ => []
noncomputable def testOf : Stmt → Expr | .If t _ _ _ => t | .While t _ _ _ => t | .Return (some e) _ => e | .Assign _ e _ => e | .Expr e _ => e | .For _ e _ _ _ => e | _ => .Name (Str.ofString "") ⟨0, 0, 0, 0⟩
noncomputable def kindOf (s : Int) : Str := if s = 0 then Str.ofString "end" else if s < 256 then Str.ofString "sign" else Str.ofString "name"
noncomputable def pyOf : D → PyData | .d x => x | _ => .none
/-- the rows of the kinds -/
noncomputable def kb : Nat → Bool × Bool × Bool
  | 0 => (true, true, false)
  | 1 => (false, true, false)
  | _ => (false, false, true)
noncomputable def kindTup (i : Nat) : List PyData := [.bool (kb i).1, .bool (kb i).2.1, .bool (kb i).2.2]
noncomputable def kindStr : Nat → Str
  | 0 => Str.ofString "end"
  | 1 => Str.ofString "sign"
  | _ => Str.ofString "name"
noncomputable def kindRow (i : Nat) : D := T [.str (kindStr i), .tuple (kindTup i)]
noncomputable def kindB (i : Nat) : Sg := [(Str.ofString "kind", S (kindStr i)), (Str.ofString "due", T (kindTup i))]
noncomputable def betaK : D → Sg | .d (.tuple [a, b]) => [(Str.ofString "kind", .d a), (Str.ofString "due", .d b)] | _ => []
noncomputable def sigK (s : Int) : Sg := [(Str.ofString "answers", L [.bool (s == 0), .bool (decide (s < 256)), .bool (decide (256 ≤ s))]), (Str.ofString "symbol", I s)]
noncomputable def p3 (a0 a1 a2 b0 b1 b2 : Bool) : D → Bool := fun d => match d with | .d (.int 0) => a0 != b0 | .d (.int 1) => a1 != b1 | _ => a2 != b2
noncomputable def three : List D := (List.range 3).map fun i : Nat => I i
theorem kind_test {A : Around} {a0 a1 a2 b0 b1 b2 : Bool} {x y : D} :
    TT w A (fNames 66) [(Str.ofString "kind", x), (Str.ofString "due", T [.bool b0, .bool b1, .bool b2]), (Str.ofString "answers", L [.bool a0, .bool a1, .bool a2]), (Str.ofString "symbol", y)] (testOf (atS (inS (atS (fBody 66) 1)) 0)) (a0 == b0 && a1 == b1 && a2 == b2) := by
  have e : (a0 == b0 && a1 == b1 && a2 == b2) = PyData.eqv (.list ((three.filter (p3 a0 a1 a2 b0 b1 b2)).map pyOf)) (.list []) := by
    cases a0 <;> cases a1 <;> cases a2 <;> cases b0 <;> cases b1 <;> cases b2 <;> rfl
  rw [e]
  refine tt_cmp (ee_comp (fun d => [(Str.ofString "k", d)]) (p3 a0 a1 a2 b0 b1 b2) pyOf [(Str.ofString "due", T [.bool b0, .bool b1, .bool b2]), (Str.ofString "answers", L [.bool a0, .bool a1, .bool a2])] (iter_range1 (n := 3) (by decide +kernel) (by decide +kernel) ee_int (by decide)) (fun d hd => .name (.inl (by decide +kernel))) (fun d hd => ?_) (fun d hd hp => ?_) ?_ ?_) (ee_list (ds := []) .nil) (cmp_eqd _ _ ?_ rfl)
  · have hd' := mem_three hd
    rcases hd' with rfl | rfl | rfl
    · exact tts_one (tt_cmp (ee_sub (ee_name rfl) (ee_name rfl) (item_list (d := .bool a0) (by decide) (by decide) rfl)) (ee_sub (ee_name rfl) (ee_name rfl) (item_tuple (d := .bool b0) (by decide) (by decide) rfl)) (cmp_isnot a0 b0))
    · exact tts_one (tt_cmp (ee_sub (ee_name rfl) (ee_name rfl) (item_list (d := .bool a1) (by decide) (by decide) rfl)) (ee_sub (ee_name rfl) (ee_name rfl) (item_tuple (d := .bool b1) (by decide) (by decide) rfl)) (cmp_isnot a1 b1))
    · exact tts_one (tt_cmp (ee_sub (ee_name rfl) (ee_name rfl) (item_list (d := .bool a2) (by decide) (by decide) rfl)) (ee_sub (ee_name rfl) (ee_name rfl) (item_tuple (d := .bool b2) (by decide) (by decide) rfl)) (cmp_isnot a2 b2))
  · have hd' := mem_three hd
    rcases hd' with rfl | rfl | rfl <;> exact ee_name rfl
  · intro q hq
    simp at hq
    rcases hq with rfl | rfl
    · exact ⟨by show (Str.ofString "due", NameKind.free) ∈ _; decide +kernel, rfl⟩
    · exact ⟨by show (Str.ofString "answers", NameKind.free) ∈ _; decide +kernel, rfl⟩
  · kernel_rfl
  · refine shaped_list fun d hd => ?_
    obtain ⟨x, hx, rfl⟩ := List.mem_map.mp hd
    rcases mem_three (List.mem_filter.mp hx).1 with rfl | rfl | rfl <;> rfl
theorem law_kind {A : Around} {n : Nat} (hA : Dp (n + 2) A) (s : Int) : CALL w A (.ref 89) [I s] (S (kindOf s)) := by
  refine call_def (x := Str.ofString "_law_kind") (k := 66) (a := 89) (ps := [Str.ofString "symbol"]) (n := n + 1) (by decide +kernel) hA (fun pm cd doc vs hl => ?_) (by decide) rfl (by decide +kernel) (by decide +kernel) (fun A' hA' => ?_) rfl rfl rfl
  · obtain ⟨v, rfl⟩ := List.length_eq_one_iff.mp hl
    rfl
  refine sx_cons (σ' := sigK s) (ms' := []) (se_assign (ee_list (.cons (ee_fn (x := Str.ofString "ISEOF") (k := 55) (a := 55) (by decide +kernel) (by decide +kernel) (.cons (ee_name rfl) .nil) (iseof hA' s)) (.cons (ee_fn (x := Str.ofString "ISTERMINAL") (k := 53) (a := 41) (by decide +kernel) (by decide +kernel) (.cons (ee_name rfl) .nil) (isterminal hA' s)) (.cons (ee_fn (x := Str.ofString "ISNONTERMINAL") (k := 54) (a := 48) (by decide +kernel) (by decide +kernel) (.cons (ee_name rfl) .nil) (isnonterminal hA' s)) .nil)))) (by decide +kernel) rfl) ?_
  obtain ⟨m, hm, hk, hlt⟩ : ∃ m, m < 3 ∧ kindStr m = kindOf s ∧ ∀ i, i ≤ m → ((s == 0) == (kb i).1 && (decide (s < 256)) == (kb i).2.1 && (decide (256 ≤ s)) == (kb i).2.2) = decide (i = m) := by
    unfold kindOf
    by_cases h0 : s = 0
    · refine ⟨0, by decide, by simp [h0, kindStr], fun i hi => ?_⟩
      obtain rfl : i = 0 := by omega
      subst h0; rfl
    · by_cases h1 : s < 256
      · have e0 : (s == 0) = false := by simpa using h0
        have e2 : decide (256 ≤ s) = false := by simpa using h1
        refine ⟨1, by decide, by simp [h0, h1, kindStr], fun i hi => ?_⟩
        have : i = 0 ∨ i = 1 := by omega
        rcases this with rfl | rfl <;> simp [kb, h1, e0, e2]
      · have e0 : (s == 0) = false := by simpa using h0
        have e2 : decide (256 ≤ s) = true := by simpa using h1
        refine ⟨2, by decide, by simp [h0, h1, kindStr], fun i hi => ?_⟩
        have : i = 0 ∨ i = 1 ∨ i = 2 := by omega
        rcases this with rfl | rfl | rfl <;> simp [kb, h1, e0, e2]
  rw [← hk]
  have hn : m < ([kindRow 0, kindRow 1, kindRow 2] : List D).length := hm
  generalize hr : S (kindStr m) = r
  refine sx_ret (se_for_ret (ds := [kindRow 0, kindRow 1, kindRow 2]) betaK m hn r (fun _ => sigK s) (fun _ => []) (iter_display (.cons (ee_tuple (.cons ee_str (.cons (ee_tuple (.cons ee_bool (.cons ee_bool (.cons ee_bool .nil)))) .nil))) (.cons (ee_tuple (.cons ee_str (.cons (ee_tuple (.cons ee_bool (.cons ee_bool (.cons ee_bool .nil)))) .nil))) (.cons (ee_tuple (.cons ee_str (.cons (ee_tuple (.cons ee_bool (.cons ee_bool (.cons ee_bool .nil)))) .nil))) .nil)))) (fun d hd => ?_) (fun _ _ _ _ _ => rfl) (fun _ _ h => h) (fun _ _ h => h) (fun i d hd hi => ?_) (fun d hd => ?_))
  · have : d = kindRow 0 ∨ d = kindRow 1 ∨ d = kindRow 2 := by simpa using hd
    rcases this with rfl | rfl | rfl <;> exact .pair (by decide +kernel) (by decide +kernel) (by decide)
  · have hrow : d = kindRow i := by
      have : i = 0 ∨ i = 1 := by omega
      rcases this with rfl | rfl <;> simpa using hd.symm
    subst hrow
    have ht := hlt i (by omega)
    rw [show decide (i = m) = false from decide_eq_false (by omega)] at ht
    have kt := kind_test (w := w) (A := A') (a0 := s == 0) (a1 := decide (s < 256)) (a2 := decide (256 ≤ s)) (b0 := (kb i).1) (b1 := (kb i).2.1) (b2 := (kb i).2.2) (x := S (kindStr i)) (y := I s)
    rw [ht] at kt
    refine sx_weak (sx_cons (se_if (c := false) kt (fun h => by cases h) (fun _ => sx_nil)) sx_nil) (sub.lk ?_) (fun _ _ h => h)
    intro q hq
    simp [sigK] at hq
    rcases hq with rfl | rfl <;> rfl
  · subst hr
    have hrow : d = kindRow m := by
      have : m = 0 ∨ m = 1 ∨ m = 2 := by omega
      rcases this with rfl | rfl | rfl <;> simpa using hd.symm
    subst hrow
    have ht := hlt m (Nat.le_refl _)
    rw [show decide (m = m) = true from decide_eq_true rfl] at ht
    have kt := kind_test (w := w) (A := A') (a0 := s == 0) (a1 := decide (s < 256)) (a2 := decide (256 ≤ s)) (b0 := (kb m).1) (b1 := (kb m).2.1) (b2 := (kb m).2.2) (x := S (kindStr m)) (y := I s)
    rw [ht] at kt
    refine sx_ret (se_if (c := true) kt (fun _ => sx_ret (se_return (ee_name rfl))) (fun h => by cases h))
end Mine
-- F18
namespace Mine
section
variable {w : World} {A : Around} {ns : List (Str × NameKind)} {σ : Sg}
theorem ee_cast {e : Expr} {d d' : D} (h : EE w A ns σ e d) (hd : d = d') : EE w A ns σ e d' := hd ▸ h
theorem ce_cast {e : Expr} {d d' : D} (h : CE w A ns σ e d) (hd : d = d') : CE w A ns σ e d' := hd ▸ h
theorem tt_cast {e : Expr} {b b' : Bool} (h : TT w A ns σ e b) (hb : b = b') : TT w A ns σ e b' := hb ▸ h
theorem ee_len_l {x : Str} {p pos : Pos} {e : Expr} {ds : List PyData} (hk : ns.lookup x = some .globalImplicit) (hx : x = Str.ofString "len") (he : EE w A ns σ e (L ds)) (hz : ds.length ≤ sizeLine) (hd : (x == ("__debug__" : Str)) = false := by decide)
    (hs : ∀ env, starEach [e] env = [e].map fun e => (false, eval e env) := by intro _; rfl) : EE w A ns σ (.Call (.Name x p) [e] [] pos) (I ds.length) := by
  subst hx
  exact ee_call (eg_name hk (fun h G => G.len) hd) (callee_builtin _) (.cons he .nil) (call_len_l ds hz) hs
theorem ee_len_s {x : Str} {p pos : Pos} {e : Expr} {y : Str} (hk : ns.lookup x = some .globalImplicit) (hx : x = Str.ofString "len") (he : EE w A ns σ e (S y)) (hz : y.length ≤ sizeLine) (hd : (x == ("__debug__" : Str)) = false := by decide)
    (hs : ∀ env, starEach [e] env = [e].map fun e => (false, eval e env) := by intro _; rfl) : EE w A ns σ (.Call (.Name x p) [e] [] pos) (I y.length) := by
  subst hx
  exact ee_call (eg_name hk (fun h G => G.len) hd) (callee_builtin _) (.cons he .nil) (call_len_s y hz) hs
theorem ee_sum {x : Str} {p pos : Pos} {e : Expr} {xs : List Int} (hk : ns.lookup x = some .globalImplicit) (hx : x = Str.ofString "sum") (he : EE w A ns σ e (L (xs.map .int))) (hd : (x == ("__debug__" : Str)) = false := by decide)
    (hs : ∀ env, starEach [e] env = [e].map fun e => (false, eval e env) := by intro _; rfl) : EE w A ns σ (.Call (.Name x p) [e] [] pos) (I xs.sum) := by
  subst hx
  exact ee_call (eg_name hk (fun h G => G.sum) hd) (callee_builtin _) (.cons he .nil) (call_sum xs) hs
theorem ee_sorted {x : Str} {p pos : Pos} {e : Expr} {xs : List Str} (hk : ns.lookup x = some .globalImplicit) (hx : x = Str.ofString "sorted") (he : EE w A ns σ e (L (xs.map .str))) (hz : xs.length < 64) (hd : (x == ("__debug__" : Str)) = false := by decide)
    (hs : ∀ env, starEach [e] env = [e].map fun e => (false, eval e env) := by intro _; rfl) : EE w A ns σ (.Call (.Name x p) [e] [] pos) (L ((srt xs).map .str)) := by
  subst hx
  exact ee_call (eg_name hk (fun h G => G.sorted) hd) (callee_builtin _) (.cons he .nil) (call_sorted xs hz) hs
end
variable {w : World}
theorem comp_all {α β : Type} (ds : List α) (f : α → β) : (ds.filter fun _ => true).map f = ds.map f := by rw [List.filter_eq_self.mpr (fun _ _ => rfl)]
-- the numbers
noncomputable def strided (xs : List Int) (k : Nat) : List Int := (List.range ((xs.length - k + 4) / 5)).map fun q => xs.getD (k + q * 5) 0
noncomputable def numK (xs own : List Int) (k : Nat) : Int := (own.getD k 0 + (strided xs k).sum).fmod 1000000
theorem stride_facts : ∀ k : Fin 5, ∀ l : Fin 64, Builtin.Range.small (k : Nat) (l : Nat) 5 = true ∧ Builtin.Range.rangeSize (k : Nat) (l : Nat) 5 = ((((l : Nat) - (k : Nat) + 4) / 5 : Nat) : Int) ∧ Builtin.divisionGoesByPylong (((l : Nat) : Int) - ((k : Nat) : Int)) 5 = false ∧ ∀ q : Fin 14, (q : Nat) < ((l : Nat) - (k : Nat) + 4) / 5 → (k : Nat) + (q : Nat) * 5 < (l : Nat) := by decide +kernel
theorem getD_map {xs : List Int} {j : Nat} (h : j < xs.length) : (xs.map PyData.int)[j]? = some (.int (xs.getD j 0)) := by
  simp [h]
noncomputable def atI (xs : List Int) : D → PyData | .d (.int j) => .int (xs.getD j.toNat 0) | _ => .none
noncomputable def nmI (xs own : List Int) : D → PyData | .d (.int j) => .int (numK xs own j.toNat) | _ => .none
theorem law_numbers {A : Around} {n : Nat} (hA : Dp (n + 1) A) (xs own : List Int) (hxs : xs.length ≤ 63) (hown : own.length = 5) : CALL w A (.ref 84) [L (xs.map .int), L (own.map .int)] (L (((List.range 5).map (numK xs own)).map .int)) := by
  refine call_def (x := Str.ofString "_law_numbers") (k := 65) (a := 84) (ps := [Str.ofString "script", Str.ofString "own"]) (n := n) (by decide +kernel) hA (fun pm cd doc vs hl => ?_) (by decide) rfl (by decide +kernel) (by decide +kernel) (fun A' hA' => ?_) rfl rfl rfl
  · match vs, hl with
    | [v, u], _ => rfl
  refine sx_ret (se_return (ee_cast (ee_comp (ds := (List.range 5).map fun i : Nat => I i) (fun d => [(Str.ofString "k", d)]) (fun _ => true) (nmI xs own) [(Str.ofString "script", L (xs.map .int)), (Str.ofString "own", L (own.map .int))] (iter_range1 (n := 5) (by decide +kernel) (by decide +kernel) (ee_cast (ee_len_l (by decide +kernel) (by decide +kernel) (ee_name rfl) ?_) ?_) (by decide)) (fun d hd => .name (.inl (by decide +kernel))) (fun d hd => tts_nil) (fun d hd _ => ?_) ?_ (by kernel_rfl)) ?_))
  · rw [List.length_map, hown]; decide
  · rw [List.length_map, hown]
  · obtain ⟨k, hk, rfl⟩ := mem_range_I hd
    obtain ⟨f1, f2, f3, f4⟩ := stride_facts ⟨k, hk⟩ ⟨xs.length, by omega⟩
    simp only at f1 f2 f3 f4
    have hg : (own.map PyData.int)[((k : Nat) : Int).toNat]? = some (.int (own.getD k 0)) := getD_map (by rw [hown]; simpa using hk)
    refine ee_bin (ee_bin (ee_sub (ee_name rfl) (ee_name rfl) (item_list (d := .int (own.getD k 0)) (by omega) (by omega) hg)) (ee_sum (xs := strided xs k) (by decide +kernel) (by decide +kernel) (ee_cast (ee_comp (ds := (List.range ((xs.length - k + 4) / 5)).map fun q : Nat => I ((k : Int) + (q : Int) * 5)) (fun d => [(Str.ofString "j", d)]) (fun _ => true) (atI xs) [(Str.ofString "script", L (xs.map .int))] (iter_range3 (n := (xs.length - k + 4) / 5) (by decide +kernel) (by decide +kernel) (ee_name rfl) (ee_cast (ee_len_l (by decide +kernel) (by decide +kernel) (ee_name rfl) ?_) ?_) (ee_cast (ee_len_l (by decide +kernel) (by decide +kernel) (ee_name rfl) ?_) ?_) (by decide) f3 f1 f2) (fun d hd => .name (.inl (by decide +kernel))) (fun d hd => tts_nil) (fun d hd _ => ?_) ?_ (by kernel_rfl) rfl ?_) ?_)) (op_add _ _)) (ee_bin ee_int ee_int (op_pow 10 6 (by decide) (by decide) (by decide))) (op_mod _ _ (by decide))
    · rw [List.length_map]; exact Nat.le_trans hxs (by decide)
    · rw [List.length_map]
    · rw [List.length_map, hown]; decide
    · rw [List.length_map, hown]; kernel_rfl
    · obtain ⟨q, hq, rfl⟩ := List.mem_map.mp hd
      have hq' : q < (xs.length - k + 4) / 5 := by simpa using hq
      have hlt := f4 ⟨q, by omega⟩ hq'
      simp only at hlt
      have e : ((k : Int) + (q : Int) * 5).toNat = k + q * 5 := by omega
      refine ee_sub (ee_name rfl) (ee_name rfl) (item_list (d := .int (xs.getD ((k : Int) + (q : Int) * 5).toNat 0)) (by omega) (by omega) ?_)
      rw [e]; exact getD_map hlt
    · intro q hq
      obtain rfl := List.mem_singleton.mp hq
      exact ⟨by show (Str.ofString "script", NameKind.free) ∈ _; decide +kernel, rfl⟩
    · rw [List.length_map, List.length_range]; exact Nat.le_trans (show (xs.length - k + 4) / 5 ≤ 63 by omega) (by decide)
    · refine congrArg L ?_
      rw [comp_all, strided, List.map_map, List.map_map]
      refine List.map_congr_left fun q _ => ?_
      show PyData.int (xs.getD ((k : Int) + (q : Int) * 5).toNat 0) = PyData.int (xs.getD (k + q * 5) 0)
      rw [show ((k : Int) + (q : Int) * 5).toNat = k + q * 5 by omega]
  · intro q hq
    simp at hq
    rcases hq with rfl | rfl
    · exact ⟨by show (Str.ofString "script", NameKind.free) ∈ _; decide +kernel, rfl⟩
    · exact ⟨by show (Str.ofString "own", NameKind.free) ∈ _; decide +kernel, rfl⟩
  · refine congrArg L ?_
    rw [comp_all, List.map_map, List.map_map]
    rfl
end Mine
-- F19
namespace Mine
variable {w : World}
noncomputable def lead (x b a : Int) : Int := if b < x then x - b + a else 0
noncomputable def rowOf (stem : Str) (n : Int) : Str := Txt.mul (Str.ofString ".") n ++ stem
noncomputable def row4 (dots : List Int) (stems : List Str) (b a : Int) (k : Nat) : Str := rowOf (stems.getD k (Str.ofString "")) (lead (dots.getD k 0) b a)
noncomputable def rowsOf (dots : List Int) (stems : List Str) (b a : Int) : List Str := (List.range 4).map (row4 dots stems b a) ++ [Str.ofString ""]
noncomputable def rwI (dots : List Int) (stems : List Str) (b a : Int) : D → PyData | .d (.int j) => .str (row4 dots stems b a j.toNat) | _ => .none
theorem getD_strs {xs : List Str} {j : Nat} (h : j < xs.length) : (xs.map PyData.str)[j]? = some (.str (xs.getD j (Str.ofString ""))) := by
  simp [h]
theorem dots_ok : ∀ n : Fin 11, MulOk (Str.ofString ".") ((n : Nat) : Int) ∧ (Txt.mul (Str.ofString ".") ((n : Nat) : Int)).length = n := by unfold MulOk; decide +kernel
theorem lead_range {x b a : Int} (hx : 0 ≤ x ∧ x ≤ 6) (hb : 0 ≤ b ∧ b ≤ 4) (ha : 0 ≤ a ∧ a ≤ 4) : 0 ≤ lead x b a ∧ lead x b a ≤ 10 := by
  unfold lead
  split <;> omega
theorem law_rows {A : Around} {n : Nat} (hA : Dp (n + 1) A) (dots : List Int) (stems : List Str) (b a : Int) (hd : dots.length = 4) (hs : stems.length = 4) (hdr : ∀ x ∈ dots, 0 ≤ x ∧ x ≤ 6) (hsr : ∀ x ∈ stems, x.length ≤ 100) (hb : 0 ≤ b ∧ b ≤ 4) (ha : 0 ≤ a ∧ a ≤ 4) :
    CALL w A (.ref 101) [L (dots.map .int), L (stems.map .str), I b, I a] (L ((rowsOf dots stems b a).map .str)) := by
  refine call_def (x := Str.ofString "_law_rows") (k := 68) (a := 101) (ps := [Str.ofString "dots", Str.ofString "stems", Str.ofString "b", Str.ofString "a"]) (n := n) (by decide +kernel) hA (fun pm cd doc vs hl => ?_) (by decide) rfl (by decide +kernel) (by decide +kernel) (fun A' hA' => ?_) rfl rfl rfl
  · match vs, hl with
    | [_, _, _, _], _ => rfl
  refine sx_ret (se_return (ee_cast (ee_bin (ee_comp (ds := (List.range 4).map fun i : Nat => I i) (fun d => [(Str.ofString "k", d)]) (fun _ => true) (rwI dots stems b a) [(Str.ofString "dots", L (dots.map .int)), (Str.ofString "stems", L (stems.map .str)), (Str.ofString "b", I b), (Str.ofString "a", I a)] (iter_range1 (n := 4) (by decide +kernel) (by decide +kernel) ee_int (by decide)) (fun d hd => .name (.inl (by decide +kernel))) (fun d hd => tts_nil) (fun d hd _ => ?_) ?_ (by kernel_rfl)) (ee_list (ds := [.str (Str.ofString "")]) (.cons ee_str .nil)) (op_cat_list _ _ ?_)) ?_))
  · obtain ⟨k, hk, rfl⟩ := mem_range_I hd
    have hx := hdr (dots.getD k 0) (by rw [List.getD_eq_getElem?_getD, List.getElem?_eq_getElem (by omega)]; exact List.getElem_mem _)
    have hst := hsr (stems.getD k (Str.ofString "")) (by rw [List.getD_eq_getElem?_getD, List.getElem?_eq_getElem (by omega)]; exact List.getElem_mem _)
    have hl := lead_range hx hb ha
    obtain ⟨m, hm⟩ := Int.eq_ofNat_of_zero_le hl.1
    obtain ⟨k1, k2⟩ := dots_ok ⟨m, by omega⟩
    simp only at k1 k2
    rw [← hm] at k1 k2
    have hg : (dots.map PyData.int)[((k : Nat) : Int).toNat]? = some (.int (dots.getD k 0)) := getD_map (by omega)
    have hg2 : (stems.map PyData.str)[((k : Nat) : Int).toNat]? = some (.str (stems.getD k (Str.ofString ""))) := getD_strs (by omega)
    refine ee_bin (ee_bin ee_str (d := I (lead (dots.getD k 0) b a)) (ee_ifexp (c := decide (b < dots.getD k 0)) (tt_cmp (ee_sub (ee_name rfl) (ee_name rfl) (item_list (d := .int (dots.getD k 0)) (by omega) (by omega) hg)) (ee_name rfl) (cmp_gt _ _)) (fun h => ?_) (fun h => ?_)) (op_mul_str _ _ k1)) (ee_sub (ee_name rfl) (ee_name rfl) (item_list (by omega) (by omega) hg2)) (op_cat _ _ ?_)
    · refine ee_cast (ee_bin (ee_bin (ee_sub (ee_name rfl) (ee_name rfl) (item_list (d := .int (dots.getD k 0)) (by omega) (by omega) hg)) (ee_name rfl) (op_sub _ _)) (ee_name rfl) (op_add _ _)) ?_
      rw [lead, if_pos (of_decide_eq_true h)]
    · refine ee_cast ee_int ?_
      rw [lead, if_neg (of_decide_eq_false h)]
    · rw [k2]
      exact Nat.le_trans (show m + _ ≤ 110 by omega) (by decide)
  · intro q hq
    simp at hq
    rcases hq with rfl | rfl | rfl | rfl
    · exact ⟨by show (Str.ofString "dots", NameKind.free) ∈ _; decide +kernel, rfl⟩
    · exact ⟨by show (Str.ofString "stems", NameKind.free) ∈ _; decide +kernel, rfl⟩
    · exact ⟨by show (Str.ofString "b", NameKind.free) ∈ _; decide +kernel, rfl⟩
    · exact ⟨by show (Str.ofString "a", NameKind.free) ∈ _; decide +kernel, rfl⟩
  · rw [comp_all]; simp [sizeLine]
  · refine congrArg L ?_
    rw [comp_all, rowsOf, List.map_map, List.map_append, List.map_map]
    rfl
end Mine
-- F20
namespace Mine
variable {w : World}
-- the words of a row, on codes: 0 the end, 1 start, 2 stop, 3 the name
abbrev Item := Str × List Nat × Nat
abbrev WS := List Str × List Item
noncomputable def wstep (s : WS) : WS := match s.2.getLast? with
  | none => s
  | some (done, rest, left) =>
    let up := s.2.dropLast
    match rest with
    | 0 :: r => (if left = 0 then s.1 ++ [done] else s.1, up)
    | 1 :: r => (s.1, up ++ [(done ++ Str.ofString "(", r, left)])
    | 2 :: r => (s.1, up ++ [(done ++ Str.ofString ")", r, left)])
    | _ :: r => (s.1, if 1 < left then up ++ [(done, r, left)] ++ [(done, 1 :: 3 :: 2 :: 3 :: r, left - 2)] else up ++ [(done, r, left)])
    | [] => (s.1, up)
noncomputable def wrun (s : WS) : Nat → WS
  | 0 => s
  | n + 1 => wstep (wrun s n)
/-- a state from which the text goes on -/
noncomputable def wok (s : WS) : Bool := (match s.2.getLast? with | some (_, 0 :: _, _) | some (_, 1 :: _, _) | some (_, 2 :: _, _) | some (_, 3 :: _, _) => true | _ => false) && s.2.all (fun q => PyData.strOk q.1 && q.1.length ≤ 100 && q.2.1.length ≤ 100 && q.2.2 ≤ 4) && s.2.length ≤ 100 && s.1.length ≤ 100
noncomputable def evc (start stop name : Int) : Nat → Int | 0 => 0 | 1 => start | 2 => stop | _ => name
section
variable (start stop name : Int)
noncomputable def itemD (q : Item) : PyData := .tuple [.str q.1, .list ((q.2.1.map (evc start stop name)).map .int), .int q.2.2]
noncomputable def wM (s : WS) : Ms := [(Str.ofString "words", s.1.map .str), (Str.ofString "waiting", s.2.map (itemD start stop name))]
end
theorem shaped_items {start stop name : Int} {l : List Item} (h : ∀ q ∈ l, PyData.strOk q.1 = true) : SeqAt.shaped (.list (l.map (itemD start stop name))) = true := by
  have key : PyData.canLayAll0 (l.map (itemD start stop name)) = true ∧ PyData.depthAll (l.map (itemD start stop name)) ≤ 2 := by
    induction l with
    | nil => exact ⟨rfl, Nat.zero_le _⟩
    | cons q r ih =>
      obtain ⟨a, b⟩ := ih fun x hx => h x (by simp [hx])
      obtain ⟨c, d⟩ := okAll (ds := (q.2.1.map (evc start stop name)).map .int) (fun x hx => by
        obtain ⟨i, _, rfl⟩ := List.mem_map.mp hx; rfl)
      have e := h q (by simp)
      constructor
      · simp only [List.map_cons, PyData.canLayAll0, itemD, PyData.canLay0, e, a, c, Bool.and_self]
      · simp only [List.map_cons, PyData.depthAll, itemD, PyData.depth, d]
        omega
  simp only [SeqAt.shaped, PyData.canLay0, PyData.depth, key.1, Bool.true_and]
  exact decide_eq_true (Nat.le_trans (Nat.succ_le_succ key.2) (by decide))
theorem eqv_nil_isEmpty (l : List PyData) : PyData.eqv (.list l) (.list []) = l.isEmpty := by cases l <;> rfl
noncomputable def subM (ms' ms : Ms) : Prop := ∀ q ∈ ms', ms.lookup q.1 = some q.2
theorem subM.lk {ms' ms : Ms} (h : subM ms' ms) : ∀ x d, ms'.lookup x = some d → ms.lookup x = some d := fun x d e => h _ (mem_of_lookup e)
/-- what the loop has at hand -/
noncomputable def wS (start stop name : Int) (row : List Nat) (room : Nat) (f : Int → Option Str) : Sg := [(Str.ofString "row", L ((row.map (evc start stop name)).map .int)), (Str.ofString "room", I room), (Str.ofString "kinds", .imap f), (Str.ofString "start", I start), (Str.ofString "stop", I stop)]
theorem sx_cons' {A : Around} {ns : List (Str × NameKind)} {σ : Sg} {ms : Ms} {ss : List Stmt} {o : Out} (h : SX w A ns σ ms ss o) : SX w A ns σ ms ss o := h
theorem words_step {A : Around} {start stop name : Int} {row : List Nat} {room : Nat} {f : Int → Option Str} (hst : 129 ≤ start ∧ start ≤ 255) (hsp : 1 ≤ stop ∧ stop ≤ 128) (hn : 256 ≤ name)
    (hf : f 0 = some (Str.ofString "end") ∧ f start = some (Str.ofString "sign") ∧ f stop = some (Str.ofString "sign") ∧ f name = some (Str.ofString "name")) (s : WS) (hs : wok s = true) :
    SX w A (fNames 67) (wS start stop name row room f) (wM start stop name s) (inS (atS (fBody 67) 1)) (.nx (wS start stop name row room f) (wM start stop name (wstep s))) := by
  obtain ⟨words, waiting⟩ := s
  unfold wok at hs
  simp only [Bool.and_eq_true, decide_eq_true_eq, List.all_eq_true] at hs
  obtain ⟨⟨⟨hlast, hall⟩, hwl⟩, hdl⟩ := hs
  cases hg : waiting.getLast? with
  | none => rw [hg] at hlast; cases hlast
  | some q =>
    obtain ⟨done, rest, left⟩ := q
    have hq := hall _ (List.mem_of_getLast? hg)
    obtain ⟨up, rfl⟩ : ∃ up, waiting = up ++ [(done, rest, left)] := List.getLast?_eq_some_iff.mp hg
    rw [hg] at hlast
    simp only at hq
    have hstep : ∀ s, wstep (words, up ++ [(done, rest, left)]) = s → wstep (words, up ++ [(done, rest, left)]) = s := fun _ h => h
    have hup : up.length < 100 := by rw [List.length_append] at hwl; simp at hwl; omega
    have pop : ∀ (o : Out) (ss : List Stmt), SX w A (fNames 67) ([(Str.ofString "done", S done), (Str.ofString "rest", L ((rest.map (evc start stop name)).map .int)), (Str.ofString "left", I left)] ++ wS start stop name row room f) [(Str.ofString "waiting", up.map (itemD start stop name)), (Str.ofString "words", words.map .str)] ss o →
        SX w A (fNames 67) (wS start stop name row room f) (wM start stop name (words, up ++ [(done, rest, left)])) (atS (inS (atS (fBody 67) 1)) 0 :: ss) o := fun o ss h => by
      refine sx_cons (se_pop (ds := up.map (itemD start stop name)) (d := itemD start stop name (done, rest, left)) (by simp only [wM, List.map_append, List.map_cons, List.map_nil]; rfl) (.three (by decide +kernel) (by decide +kernel) (by decide +kernel) (by decide) (by decide) (by decide)) ?_ ?_ ?_ (hA := fun b env Mc ls s Q hst h => ?_)) (sx_pre h (fun _ _ h => h) ?_)
      · intro q hq
        simp at hq
        rcases hq with rfl | rfl | rfl <;> rfl
      · intro q hq
        simp at hq
        rcases hq with rfl | rfl | rfl <;> (dsimp only; decide)
      · rw [List.length_map]; exact Nat.lt_of_lt_of_le hup (by decide)
      · exact Assign_Tuple h
      · refine subM.lk fun q hq => ?_
        simp at hq
        rcases hq with rfl | rfl <;> rfl
    -- the statements behind the pop
    have hs2 : left ≤ 4 := hq.2
    have fin : ∀ (s' : WS) (ms' : Ms), ms'.lookup (Str.ofString "words") = some (s'.1.map .str) → ms'.lookup (Str.ofString "waiting") = some (s'.2.map (itemD start stop name)) → ∀ x d, (wM start stop name s').lookup x = some d → ms'.lookup x = some d := fun s' ms' h1 h2 => subM.lk fun q hq => by
      simp only [wM, List.mem_cons, List.not_mem_nil, or_false] at hq
      rcases hq with rfl | rfl
      · exact h1
      · exact h2
    have fins : ∀ (k : D), ∀ x d, (wS start stop name row room f).lookup x = some d → ((Str.ofString "kind", k) :: ([(Str.ofString "done", S done), (Str.ofString "rest", L ((rest.map (evc start stop name)).map .int)), (Str.ofString "left", I left)] ++ wS start stop name row room f)).lookup x = some d := fun k => sub.lk fun q hq => by
      simp only [wS, List.mem_cons, List.not_mem_nil, or_false] at hq
      rcases hq with rfl | rfl | rfl | rfl | rfl <;> rfl
    match rest, hlast with
    | 0 :: r, _ =>
      have hw : wstep (words, up ++ [(done, 0 :: r, left)]) = (if left = 0 then words ++ [done] else words, up) := by simp [wstep]
      rw [hw]
      by_cases h0 : left = 0
      · subst h0
        refine sx_weak (pop _ _ (sx_cons (se_assign (d := S (Str.ofString "end")) (ee_sub (ee_name rfl) (ee_sub (ee_name rfl) ee_int (item_list (d := .int 0) (by decide) (by decide) rfl)) (item_imap hf.1)) (by decide +kernel) rfl) (sx_cons (se_if (c := true) (tt_and2 (a := true) (b := true) (tt_cmp (ee_name rfl) ee_str (cmp_eqs (Str.ofString "end") (Str.ofString "end"))) (fun _ => tt_cmp (ee_name rfl) ee_int (cmp_eqi 0 0))) (fun _ => sx_cons (se_append (ds := words.map .str) rfl (ee_name rfl) (by rw [List.length_map]; exact Nat.le_trans hdl (by decide))) sx_nil) (fun h => by cases h))
          (sx_cons (se_if (c := false) (tt_cmp (ee_name rfl) ee_str (cmp_eqs (Str.ofString "end") (Str.ofString "name"))) (fun h => by cases h) (fun _ => sx_nil)) (sx_cons (se_if (c := false) (tt_cmp (ee_name rfl) ee_str (cmp_eqs (Str.ofString "end") (Str.ofString "sign"))) (fun h => by cases h) (fun _ => sx_nil)) sx_nil))))) (fins _) (fin _ _ ?_ ?_)
        · rw [if_pos rfl, List.map_append]; rfl
        · rfl
      · have e0 : ((left : Int) == 0) = false := by simpa using h0
        refine sx_weak (pop _ _ (sx_cons (se_assign (d := S (Str.ofString "end")) (ee_sub (ee_name rfl) (ee_sub (ee_name rfl) ee_int (item_list (d := .int 0) (by decide) (by decide) rfl)) (item_imap hf.1)) (by decide +kernel) rfl) (sx_cons (se_if (c := false) (tt_cast (tt_and2 (a := true) (b := ((left : Int) == 0)) (tt_cmp (ee_name rfl) ee_str (cmp_eqs (Str.ofString "end") (Str.ofString "end"))) (fun _ => tt_cmp (ee_name rfl) ee_int (cmp_eqi left 0))) (by rw [e0]; rfl)) (fun h => by cases h) (fun _ => sx_nil))
          (sx_cons (se_if (c := false) (tt_cmp (ee_name rfl) ee_str (cmp_eqs (Str.ofString "end") (Str.ofString "name"))) (fun h => by cases h) (fun _ => sx_nil)) (sx_cons (se_if (c := false) (tt_cmp (ee_name rfl) ee_str (cmp_eqs (Str.ofString "end") (Str.ofString "sign"))) (fun h => by cases h) (fun _ => sx_nil)) sx_nil))))) (fins _) (fin _ _ ?_ ?_)
        · rw [if_neg h0]; rfl
        · rfl
    | 1 :: r, _ =>
      have hw : wstep (words, up ++ [(done, 1 :: r, left)]) = (words, up ++ [(done ++ Str.ofString "(", r, left)]) := by simp [wstep]
      rw [hw]
      have hr : ((((1 :: r).map (evc start stop name)).map PyData.int)).length ≤ sizeLine := by rw [List.length_map, List.length_map]; exact Nat.le_trans hq.1.2 (by decide)
      refine sx_weak (pop _ _ (sx_cons (se_assign (d := S (Str.ofString "sign")) (ee_sub (ee_name rfl) (ee_sub (ee_name rfl) ee_int (item_list (d := .int start) (by decide) (by decide) rfl)) (item_imap hf.2.1)) (by decide +kernel) rfl) (sx_cons (se_if (c := false) (tt_and2 (a := false) (b := false) (tt_cmp (ee_name rfl) ee_str (cmp_eqs (Str.ofString "sign") (Str.ofString "end"))) (fun h => by cases h)) (fun h => by cases h) (fun _ => sx_nil))
        (sx_cons (se_if (c := false) (tt_cmp (ee_name rfl) ee_str (cmp_eqs (Str.ofString "sign") (Str.ofString "name"))) (fun h => by cases h) (fun _ => sx_nil)) (sx_cons (se_if (c := true) (tt_cmp (ee_name rfl) ee_str (cmp_eqs (Str.ofString "sign") (Str.ofString "sign"))) (fun _ => sx_cons (se_append (ds := up.map (itemD start stop name)) (d := itemD start stop name (done ++ Str.ofString "(", r, left)) rfl
          (ee_tuple (ds := [.str (done ++ Str.ofString "("), .list ((r.map (evc start stop name)).map .int), .int left]) (.cons (ee_bin (ee_name rfl) (ee_ifexp (d := S (Str.ofString "(")) (c := (start == start)) (tt_cmp (ee_sub (ee_name rfl) ee_int (item_list (d := .int start) (by decide) (by decide) rfl)) (ee_name rfl) (cmp_eqi start start)) (fun h => ?_) (fun h => ?_)) (op_cat done (Str.ofString "(") (Nat.le_trans (Nat.add_le_add_right hq.1.1.2 _) (by decide)))) (.cons (ee_slice_from (k := 1) (ee_name rfl) hr) (.cons (ee_name rfl) .nil)))) (by rw [List.length_map]; exact Nat.le_trans (Nat.le_of_lt hup) (by decide))) sx_nil) (fun h => by cases h)) sx_nil))))) (fins _) (fin _ _ ?_ ?_)
      · exact ee_str
      · exact absurd h (by simp)
      · rfl
      · rw [List.map_append]; rfl
    | 2 :: r, _ =>
      have hw : wstep (words, up ++ [(done, 2 :: r, left)]) = (words, up ++ [(done ++ Str.ofString ")", r, left)]) := by simp [wstep]
      rw [hw]
      have hr : ((((2 :: r).map (evc start stop name)).map PyData.int)).length ≤ sizeLine := by rw [List.length_map, List.length_map]; exact Nat.le_trans hq.1.2 (by decide)
      refine sx_weak (pop _ _ (sx_cons (se_assign (d := S (Str.ofString "sign")) (ee_sub (ee_name rfl) (ee_sub (ee_name rfl) ee_int (item_list (d := .int stop) (by decide) (by decide) rfl)) (item_imap hf.2.2.1)) (by decide +kernel) rfl) (sx_cons (se_if (c := false) (tt_and2 (a := false) (b := false) (tt_cmp (ee_name rfl) ee_str (cmp_eqs (Str.ofString "sign") (Str.ofString "end"))) (fun h => by cases h)) (fun h => by cases h) (fun _ => sx_nil))
        (sx_cons (se_if (c := false) (tt_cmp (ee_name rfl) ee_str (cmp_eqs (Str.ofString "sign") (Str.ofString "name"))) (fun h => by cases h) (fun _ => sx_nil)) (sx_cons (se_if (c := true) (tt_cmp (ee_name rfl) ee_str (cmp_eqs (Str.ofString "sign") (Str.ofString "sign"))) (fun _ => sx_cons (se_append (ds := up.map (itemD start stop name)) (d := itemD start stop name (done ++ Str.ofString ")", r, left)) rfl
          (ee_tuple (ds := [.str (done ++ Str.ofString ")"), .list ((r.map (evc start stop name)).map .int), .int left]) (.cons (ee_bin (ee_name rfl) (ee_ifexp (d := S (Str.ofString ")")) (c := (stop == start)) (tt_cmp (ee_sub (ee_name rfl) ee_int (item_list (d := .int stop) (by decide) (by decide) rfl)) (ee_name rfl) (cmp_eqi stop start)) (fun h => ?_) (fun h => ?_)) (op_cat done (Str.ofString ")") (Nat.le_trans (Nat.add_le_add_right hq.1.1.2 _) (by decide)))) (.cons (ee_slice_from (k := 1) (ee_name rfl) hr) (.cons (ee_name rfl) .nil)))) (by rw [List.length_map]; exact Nat.le_trans (Nat.le_of_lt hup) (by decide))) sx_nil) (fun h => by cases h)) sx_nil))))) (fins _) (fin _ _ ?_ ?_)
      · exact absurd (beq_iff_eq.mp h) (by omega)
      · exact ee_str
      · rfl
      · rw [List.map_append]; rfl
    | 3 :: r, _ =>
      have hw : wstep (words, up ++ [(done, 3 :: r, left)]) = (words, if 1 < left then up ++ [(done, r, left)] ++ [(done, 1 :: 3 :: 2 :: 3 :: r, left - 2)] else up ++ [(done, r, left)]) := by simp [wstep]
      rw [hw]
      have hr0 : (((3 :: r).map (evc start stop name)).map PyData.int).length ≤ 100 := by rw [List.length_map, List.length_map]; exact hq.1.2
      have hr : ((((3 :: r).map (evc start stop name)).map PyData.int)).length ≤ sizeLine := Nat.le_trans hr0 (by decide)
      by_cases h1 : 1 < left
      · rw [if_pos h1]
        refine sx_weak (pop _ _ (sx_cons (se_assign (d := S (Str.ofString "name")) (ee_sub (ee_name rfl) (ee_sub (ee_name rfl) ee_int (item_list (d := .int name) (by decide) (by decide) rfl)) (item_imap hf.2.2.2)) (by decide +kernel) rfl) (sx_cons (se_if (c := false) (tt_and2 (a := false) (b := false) (tt_cmp (ee_name rfl) ee_str (cmp_eqs (Str.ofString "name") (Str.ofString "end"))) (fun h => by cases h)) (fun h => by cases h) (fun _ => sx_nil))
          (sx_cons (se_if (c := true) (tt_cmp (ee_name rfl) ee_str (cmp_eqs (Str.ofString "name") (Str.ofString "name"))) (fun _ => sx_cons (se_append (ds := up.map (itemD start stop name)) (d := itemD start stop name (done, r, left)) rfl
          (ee_tuple (ds := [.str done, .list ((r.map (evc start stop name)).map .int), .int left]) (.cons (ee_name rfl) (.cons (ee_slice_from (k := 1) (ee_name rfl) hr) (.cons (ee_name rfl) .nil)))) (by rw [List.length_map]; exact Nat.le_trans (Nat.le_of_lt hup) (by decide))) (sx_cons (se_if (c := true) (tt_cast (tt_cmp (ee_name rfl) ee_int (cmp_gt left 1)) (decide_eq_true (by omega))) (fun _ => sx_cons (se_append (ds := up.map (itemD start stop name) ++ [itemD start stop name (done, r, left)]) (d := itemD start stop name (done, 1 :: 3 :: 2 :: 3 :: r, left - 2)) rfl
          (ee_tuple (ds := [.str done, .list (((1 :: 3 :: 2 :: 3 :: r).map (evc start stop name)).map .int), .int ((left - 2 : Nat) : Int)]) (.cons (ee_name rfl) (.cons (ee_bin (ee_list (ds := [.int start, .int name, .int stop]) (.cons (ee_name rfl) (.cons (ee_sub (ee_name rfl) ee_int (item_list (d := .int name) (by decide) (by decide) rfl)) (.cons (ee_name rfl) .nil)))) (ee_name rfl) (op_cat_list [.int start, .int name, .int stop] (((3 :: r).map (evc start stop name)).map .int) ?_)) (.cons (ee_cast (ee_bin (ee_name rfl) ee_int (op_sub left 2)) ?_) .nil)))) ?_) sx_nil) (fun h => by cases h)) sx_nil)) (fun h => by cases h)) (sx_cons (se_if (c := false) (tt_cmp (ee_name rfl) ee_str (cmp_eqs (Str.ofString "name") (Str.ofString "sign"))) (fun h => by cases h) (fun _ => sx_nil)) sx_nil))))) (fins _) (fin _ _ ?_ ?_)
        · exact Nat.le_trans (Nat.add_le_add_left hr0 _) (by show 3 + 100 ≤ sizeLine; decide)
        · rw [show (left : Int) - 2 = ((left - 2 : Nat) : Int) by omega]
        · rw [List.length_append, List.length_map]; exact Nat.le_trans (Nat.add_le_add_right (Nat.le_of_lt hup) _) (by show 100 + 1 ≤ sizeLine; decide)
        · rfl
        · rw [List.map_append, List.map_append]; rfl
      · rw [if_neg h1]
        refine sx_weak (pop _ _ (sx_cons (se_assign (d := S (Str.ofString "name")) (ee_sub (ee_name rfl) (ee_sub (ee_name rfl) ee_int (item_list (d := .int name) (by decide) (by decide) rfl)) (item_imap hf.2.2.2)) (by decide +kernel) rfl) (sx_cons (se_if (c := false) (tt_and2 (a := false) (b := false) (tt_cmp (ee_name rfl) ee_str (cmp_eqs (Str.ofString "name") (Str.ofString "end"))) (fun h => by cases h)) (fun h => by cases h) (fun _ => sx_nil))
          (sx_cons (se_if (c := true) (tt_cmp (ee_name rfl) ee_str (cmp_eqs (Str.ofString "name") (Str.ofString "name"))) (fun _ => sx_cons (se_append (ds := up.map (itemD start stop name)) (d := itemD start stop name (done, r, left)) rfl
          (ee_tuple (ds := [.str done, .list ((r.map (evc start stop name)).map .int), .int left]) (.cons (ee_name rfl) (.cons (ee_slice_from (k := 1) (ee_name rfl) hr) (.cons (ee_name rfl) .nil)))) (by rw [List.length_map]; exact Nat.le_trans (Nat.le_of_lt hup) (by decide))) (sx_cons (se_if (c := false) (tt_cast (tt_cmp (ee_name rfl) ee_int (cmp_gt left 1)) (decide_eq_false (by omega))) (fun h => by cases h) (fun _ => sx_nil)) sx_nil)) (fun h => by cases h)) (sx_cons (se_if (c := false) (tt_cmp (ee_name rfl) ee_str (cmp_eqs (Str.ofString "name") (Str.ofString "sign"))) (fun h => by cases h) (fun _ => sx_nil)) sx_nil))))) (fins _) (fin _ _ ?_ ?_)
        · rfl
        · rw [List.map_append]; rfl
noncomputable def pairsL : List (Nat × Nat) := [(0, 0), (0, 2), (0, 4), (1, 1), (1, 3), (2, 0), (2, 2), (3, 1), (4, 0)]
/-- the row that a pair starts from -/
noncomputable def rowC (b a : Nat) : List Nat := [3] ++ (List.replicate b [2, 3]).flatten ++ (List.replicate a [1, 3]).flatten ++ [0]
noncomputable def wstart (b a : Nat) : WS := ([], [(Str.ofString "", rowC b a, 4 - a - b)])
noncomputable def wcount (s : WS) : Nat → Nat
  | 0 => 0
  | n + 1 => if s.2.isEmpty then 0 else wcount (wstep s) n + 1
noncomputable def wordsOf (b a : Nat) : List Str := (wrun (wstart b a) (wcount (wstart b a) 1000)).1
theorem words_run : ∀ p ∈ pairsL, (∀ i : Nat, i < wcount (wstart p.1 p.2) 1000 → wok (wrun (wstart p.1 p.2) i) = true) ∧ (wrun (wstart p.1 p.2) (wcount (wstart p.1 p.2) 1000)).2 = [] := by decide +kernel
end Mine
-- F21
namespace Mine
variable {w : World}
theorem words_test {A : Around} {start stop name : Int} {σ : Sg} (s : WS) (b : Bool) (hb : b = !s.2.isEmpty) (hs : ∀ q ∈ s.2, PyData.strOk q.1 = true) :
    TT w A (fNames 67) (view σ (wM start stop name s)) (testOf (atS (fBody 67) 1)) b := by
  subst hb
  refine tt_cast (tt_cmp (ee_name (d := L (s.2.map (itemD start stop name))) rfl) (ee_list (ds := []) .nil) (cmp_ned _ _ (shaped_items hs) rfl)) ?_
  rw [eqv_nil_isEmpty]
  cases s.2 <;> rfl
theorem law_words {A : Around} {n : Nat} (hA : Dp (n + 1) A) {start stop name : Int} {f : Int → Option Str} (hst : 129 ≤ start ∧ start ≤ 255) (hsp : 1 ≤ stop ∧ stop ≤ 128) (hn : 256 ≤ name)
    (hf : f 0 = some (Str.ofString "end") ∧ f start = some (Str.ofString "sign") ∧ f stop = some (Str.ofString "sign") ∧ f name = some (Str.ofString "name")) (b a : Nat) (hp : (b, a) ∈ pairsL) :
    CALL w A (.ref 96) [L (((rowC b a).map (evc start stop name)).map .int), I ((4 - a - b : Nat) : Int), .imap f, I start, I stop] (L ((wordsOf b a).map .str)) := by
  refine call_def (x := Str.ofString "_law_words") (k := 67) (a := 96) (ps := [Str.ofString "row", Str.ofString "room", Str.ofString "kinds", Str.ofString "start", Str.ofString "stop"]) (n := n) (by decide +kernel) hA (fun pm cd doc vs hl => ?_) (by decide) rfl (by decide +kernel) (by decide +kernel) (fun A' hA' => ?_) rfl rfl rfl
  · match vs, hl with
    | [_, _, _, _, _], _ => rfl
  obtain ⟨hok, hend⟩ := words_run _ hp
  simp only at hok hend
  generalize hm : wcount (wstart b a) 1000 = m at hok hend
  have hwords : wordsOf b a = (wrun (wstart b a) m).1 := by unfold wordsOf; rw [hm]
  rw [hwords]
  have h0 : wrun (wstart b a) 0 = wstart b a := rfl
  refine sx_cons (σ' := wS start stop name (rowC b a) (4 - a - b) f) (ms' := wM start stop name (wrun (wstart b a) 0)) (se_swap_new (en_list (ds := []) .nil) (en_list (ds := [itemD start stop name (Str.ofString "", rowC b a, 4 - a - b)]) (.cons (ee_tuple (ds := [.str (Str.ofString ""), .list (((rowC b a).map (evc start stop name)).map .int), .int ((4 - a - b : Nat) : Int)]) (.cons ee_str (.cons (ee_name rfl) (.cons (ee_name rfl) .nil)))) .nil)) (by decide +kernel) (by decide +kernel) (by decide) rfl rfl rfl rfl) ?_
  refine sx_cons (se_while m (fun _ => wS start stop name (rowC b a) (4 - a - b) f) (fun i => wM start stop name (wrun (wstart b a) i)) (fun _ _ h => h) (fun _ _ h => h) (fun i hi => ?_) (fun i hi => ?_)) (sx_release (x := Str.ofString "words") (ms' := []) rfl (fun _ _ h => by simp at h) (sx_ret (se_return (ee_name rfl))))
  · by_cases hlt : i < m
    · have hk := hok i hlt
      unfold wok at hk
      simp only [Bool.and_eq_true, decide_eq_true_eq, List.all_eq_true] at hk
      obtain ⟨⟨⟨hlast, hall⟩, _⟩, _⟩ := hk
      refine words_test _ _ ?_ fun q hq => (hall q hq).1.1.1
      rw [decide_eq_true hlt]
      cases h : (wrun (wstart b a) i).2 with
      | nil => rw [h] at hlast; simp at hlast
      | cons _ _ => rfl
    · obtain rfl : i = m := by omega
      refine words_test _ _ ?_ fun q hq => by rw [hend] at hq; simp at hq
      rw [hend]; simp
  · exact words_step hst hsp hn hf _ (hok i hi)
end Mine
-- F22
namespace Mine
section
variable {w : World} {A : Around} {ns : List (Str × NameKind)} {σ : Sg}
theorem call_split {x y : Str} {t t' : Tok} {s : Shared} (hy : (y.length == 0) = false) (hx : x.length ≤ sizeLine) (hn : (Builtin.Str.partsBetween x (Builtin.Str.occurrences x y 0 x.length (x.length + 1)) y.length).length ≤ sizeLine) :
    wpAny (model pg w) A (call (.builtin "str.split") [.str x t, .str y t']) (fun v s' => Keeps s s' ∧ ∃ l, l.map (·.1) = Txt.split x y ∧ v = .ref s.heap.objs.size ∧ s'.heap.PlainList s.heap.objs.size (strValues l).toArray) (fun _ _ => False) s := by
  unfold Txt.split
  cases h1 : (decide (x.length < y.length) || decide (Builtin.Str.strKind x < Builtin.Str.strKind y))
  · cases hf : (Builtin.Str.occurrences x y 0 x.length (x.length + 1)).isEmpty
    · refine call_meets F.slot_str_split (typeIs_str _ _ _) F.entry_str_split (F.args_str_split_2 _ _) (meets_str_split_sep x y t t' h1 hy hf hx hn) ?_
      show wants _ _ _ { s with toks := _, heap := s.heap.push { cls := .type "list", data := .seq (strsFrom s.toks (Builtin.Str.partsBetween x (Builtin.Str.occurrences x y 0 x.length (x.length + 1)) y.length)).toArray } }
      rw [strsFrom_eq]
      exact ⟨Keeps.heap (Keeps.rfl s) (Up.push _ _), numbered s.toks _, by rw [numbered_texts]; simp [hf], rfl, ⟨_, Heap.get?_push_size _ rfl⟩⟩
    · exact call_meets F.slot_str_split (typeIs_str _ _ _) F.entry_str_split (F.args_str_split_2 _ _) (meets_str_split_not_found x y t t' h1 hy hf)
        ⟨Keeps.push (Keeps.rfl s) _, [(x, t)], by simp [hf], rfl, ⟨_, Heap.get?_push_size _ rfl⟩⟩
  · exact call_meets F.slot_str_split (typeIs_str _ _ _) F.entry_str_split (F.args_str_split_2 _ _) (meets_str_split_cannot_occur x y t t' h1)
      ⟨Keeps.push (Keeps.rfl s) _, [(x, t)], by simp, rfl, ⟨_, Heap.get?_push_size _ rfl⟩⟩
theorem en_split {o a : Expr} {apos pos : Pos} {x y : Str} (ho : EE w A ns σ o (S x)) (ha : EE w A ns σ a (S y)) (hy : (y.length == 0) = false) (hx : x.length ≤ sizeLine) (hn : (Builtin.Str.partsBetween x (Builtin.Str.occurrences x y 0 x.length (x.length + 1)) y.length).length ≤ sizeLine)
    (hbase : ∀ env, attributeBase o "split" env (eval o env) = eval o env := by intro _; rfl) (hline : (apos.endLine == pos.line) = true := by decide)
    (hs : ∀ env, starEach [a] env = [a].map fun e => (false, eval e env) := by intro _; rfl) : EN w A ns σ (.Call (.Attribute o "split" apos) [a] [] pos) ((Txt.split x y).map .str) := .mk fun env M s he hv c => by
  refine wpAny_Call_method_late (hbase env) ?_ hline (trees := [a].map fun e => (false, eval e env)) (by rw [hs, backTo_plain]) ((ho.run env M s.heap he hv).use (Up.refl _) c fun ov s1 k1 c1 p1 => ?_)
  · rw [hs, backTo_plain]; rfl
  · obtain ⟨t, rfl⟩ := unS p1
    refine ⟨"str", _, F.plainAttrs_str, F.slot_str_split, F.type_str_split, typeIs_str _ _ _, (fun a' (e' : Value.str x t = Value.ref a') => nomatch e'), Calls.callWith_builtin (any_plain (es := [a]) (env := env)) (Calls.evalArgs_plain (Calls.spliced_cons (((ha.run env M s.heap he hv).up (Keeps.upto k1)).use (Up.refl _) c1 fun v s2 k2 c2 p2 => Calls.spliced_nil ?_)))⟩
    obtain ⟨t', rfl⟩ := unS p2
    refine wpAny_mono (call_split hy hx hn) (fun v s' ⟨k, l, e, ev, hl⟩ => ⟨Keeps.tr (Keeps.tr k1 k2) k, _, _, ev, none_down (Keeps.upto k1) (none_down (Keeps.upto k2) (fresh_none (Nat.le_refl _))), c2.G.size, hl, ?_⟩) fun _ _ e => e
    rw [← e]
    simpa using values_strs l
end
end Mine
-- F23
namespace Mine
variable {w : World}
noncomputable def e0 : Str := Str.ofString ""
noncomputable def findAll (got : Str) (e : Int) : List Str → Int → Bool
  | [], _ => true
  | x :: r, s => if findAt got x s e < 0 then false else findAll got e r (findAt got x s e + x.length)
noncomputable def fp (got : Str) (e : Int) (ws : List Str) (s : Int) : Nat → Int
  | 0 => s
  | i + 1 => findAt got (ws.getD i e0) (fp got e ws s i) e + (ws.getD i e0).length
theorem fp_cons (got : Str) (e : Int) (x : Str) (r : List Str) (s : Int) : ∀ i, fp got e (x :: r) s (i + 1) = fp got e r (findAt got x s e + x.length) i
  | 0 => rfl
  | i + 1 => by
    rw [fp, fp_cons got e x r s i]; rfl
theorem find_cases (got : Str) (e : Int) : ∀ (ws : List Str) (s : Int),
    (∃ n, n < ws.length ∧ (∀ i, i < n → 0 ≤ findAt got (ws.getD i e0) (fp got e ws s i) e) ∧ findAt got (ws.getD n e0) (fp got e ws s n) e < 0 ∧ findAll got e ws s = false) ∨
    ((∀ i, i < ws.length → 0 ≤ findAt got (ws.getD i e0) (fp got e ws s i) e) ∧ findAll got e ws s = true)
  | [], s => .inr ⟨fun i h => by simp at h, rfl⟩
  | x :: r, s => by
    by_cases h : findAt got x s e < 0
    · exact .inl ⟨0, by simp, fun i h => by omega, h, by rw [findAll, if_pos h]⟩
    · have ha : findAll got e (x :: r) s = findAll got e r (findAt got x s e + x.length) := by rw [findAll, if_neg h]
      have hsh : ∀ k, (∀ i, i < k → 0 ≤ findAt got (r.getD i e0) (fp got e r (findAt got x s e + x.length) i) e) → ∀ i, i < k + 1 → 0 ≤ findAt got ((x :: r).getD i e0) (fp got e (x :: r) s i) e := fun k hk i hi => by
        cases i with
        | zero => exact Int.not_lt.mp h
        | succ i => rw [fp_cons]; exact hk i (by omega)
      rcases find_cases got e r (findAt got x s e + x.length) with ⟨n, h1, h2, h3, h4⟩ | ⟨h1, h2⟩
      · exact .inl ⟨n + 1, by simpa using h1, hsh n h2, by rw [fp_cons]; exact h3, by rw [ha]; exact h4⟩
      · exact .inr ⟨fun i hi => hsh r.length h1 i (by simpa using hi), by rw [ha]; exact h2⟩
noncomputable def eS (want got : Str) (s e : Int) : Sg := [(Str.ofString "startpos", I s), (Str.ofString "endpos", I e), (Str.ofString "want", S want), (Str.ofString "got", S got)]
noncomputable def eM (ws : List Str) : Ms := [(Str.ofString "ws", ws.map .str)]
theorem e_turn {A : Around} {want got : Str} {x : Str} {s e : Int} {z : D} (hx : x.length ≤ sizeLine) :
    (0 ≤ findAt got x s e → SX w A (fNames 58) ((Str.ofString "w", S x) :: (Str.ofString "ws", z) :: eS want got s e) [] (inS (atS (fBody 58) 9)) (.nx ((Str.ofString "ws", z) :: eS want got (findAt got x s e + x.length) e) [])) ∧
    (findAt got x s e < 0 → SX w A (fNames 58) ((Str.ofString "w", S x) :: (Str.ofString "ws", z) :: eS want got s e) [] (inS (atS (fBody 58) 9)) (.rt (B false))) := by
  have h1 : SE w A (fNames 58) ((Str.ofString "w", S x) :: (Str.ofString "ws", z) :: eS want got s e) [] (atS (inS (atS (fBody 58) 9)) 0) (.nx ((Str.ofString "startpos", I (findAt got x s e)) :: (Str.ofString "w", S x) :: (Str.ofString "ws", z) :: eS want got s e) []) :=
    se_assign (ee_meth (ee_name rfl) (.cons (ee_name rfl) (.cons (ee_name rfl) (.cons (ee_name rfl) .nil))) (meth_find got x s e)) (by decide +kernel) rfl
  refine ⟨fun h => ?_, fun h => ?_⟩
  · refine sx_weak (sx_cons h1 (sx_cons (se_if (c := false) (tt_cast (tt_cmp (ee_name rfl) ee_int (cmp_lt _ 0)) (decide_eq_false (Int.not_lt.mpr h))) (fun h => by cases h) (fun _ => sx_nil)) (sx_cons (se_aug (c := I (findAt got x s e)) rfl (ee_len_s (by decide +kernel) (by decide +kernel) (ee_name rfl) hx) (iop_add _ _) (sc_int _) (sc_int _) (by decide +kernel) rfl) sx_nil))) (sub.lk fun q hq => ?_) (fun _ _ h => h)
    simp only [eS, List.mem_cons, List.not_mem_nil, or_false] at hq
    rcases hq with rfl | rfl | rfl | rfl | rfl <;> rfl
  · exact sx_cons h1 (sx_ret (se_if (c := true) (tt_cast (tt_cmp (ee_name rfl) ee_int (cmp_lt _ 0)) (decide_eq_true h)) (fun _ => sx_ret (se_return ee_bool)) (fun h => by cases h)))
theorem e_for {A : Around} {want got : Str} {s e : Int} (ws : List Str) (hws : ∀ x ∈ ws, x.length ≤ sizeLine) : SX w A (fNames 58) (eS want got s e) (eM ws) ((fBody 58).drop 9) (.rt (B (findAll got e ws s))) := by
  refine sx_release (x := Str.ofString "ws") (ms' := []) rfl (fun _ _ h => by simp at h) ?_
  have hit : ITER w A (fNames 58) ((Str.ofString "ws", L (ws.map .str)) :: eS want got s e) (testOf (atS (fBody 58) 9)) ((ws.map .str).map .d) := iter_list (ee_name rfl)
  have hds : ∀ (i : Nat) d, ((ws.map PyData.str).map D.d)[i]? = some d → i < ws.length ∧ d = S (ws.getD i e0) := fun i d h => by
    simp only [List.getElem?_map] at h
    cases h' : ws[i]? with
    | none => rw [h'] at h; cases h
    | some x =>
      rw [h'] at h
      obtain ⟨hi, _⟩ := List.getElem?_eq_some_iff.mp h'
      refine ⟨hi, ?_⟩
      rw [List.getD_eq_getElem?_getD, h']
      simpa using h.symm
  have hlen : ∀ i, i < ws.length → (ws.getD i e0).length ≤ sizeLine := fun i hi => hws _ (by rw [List.getD_eq_getElem?_getD, List.getElem?_eq_getElem hi]; exact List.getElem_mem _)
  have htg : ∀ d ∈ ((ws.map PyData.str).map D.d), TgtN (fNames 58) (.Name (Str.ofString "w") ⟨0, 0, 0, 0⟩) d [(Str.ofString "w", d)] := fun d _ => .name (by decide +kernel)
  rcases find_cases got e ws s with ⟨n, h1, h2, h3, h4⟩ | ⟨h1, h2⟩
  · rw [h4]
    refine sx_ret (se_for_ret (fun d => [(Str.ofString "w", d)]) n (by simpa using h1) (B false) (fun i => (Str.ofString "ws", L (ws.map .str)) :: eS want got (fp got e ws s i) e) (fun _ => []) hit (fun d _ => .name (by decide +kernel)) (fun _ _ _ _ _ => rfl) (fun _ _ h => h) (fun _ _ h => h) (fun i d hd hi => ?_) (fun d hd => ?_))
    · obtain ⟨hi', rfl⟩ := hds i d hd
      exact (e_turn (hlen i hi')).1 (h2 i hi)
    · obtain ⟨hi', rfl⟩ := hds n d hd
      exact (e_turn (hlen n hi')).2 h3
  · rw [h2]
    refine sx_cons (se_for (fun d => [(Str.ofString "w", d)]) (fun i => (Str.ofString "ws", L (ws.map .str)) :: eS want got (fp got e ws s i) e) (fun _ => []) hit (fun d _ => .name (by decide +kernel)) (fun _ _ _ _ _ => rfl) (fun _ _ h => h) (fun _ _ h => h) (fun i d hd => ?_)) (sx_ret (se_return ee_bool))
    obtain ⟨hi', rfl⟩ := hds i d hd
    exact (e_turn (hlen i hi')).1 (h1 i hi')
end Mine
-- F24
namespace Mine
variable {w : World}
noncomputable def ell8 (got : Str) (ws : List Str) (s e : Int) : Bool := if e < s then false else findAll got e ws s
noncomputable def ell6 (got : Str) (ws : List Str) (s : Int) : Bool := if ((ws.getLastD e0).length : Int) = 0 then ell8 got ws s got.length else if Txt.endswith got (ws.getLastD e0) = true then ell8 got ws.dropLast s (got.length - (ws.getLastD e0).length) else false
noncomputable def ell4 (got : Str) (ws : List Str) : Bool := if ((ws.headD e0).length : Int) = 0 then ell6 got ws 0 else if Txt.startswith got (ws.headD e0) = true then ell6 got ws.tail (ws.headD e0).length else false
noncomputable def dots3 : Str := Str.ofString "..."
noncomputable def ellMatch (want got : Str) : Bool := if (Builtin.Str.occurrences want dots3 0 want.length 1).isEmpty = true then want == got else ell4 got (Txt.split want dots3)
theorem e_8 {A : Around} {want got : Str} {s e : Int} (ws : List Str) (hws : ∀ x ∈ ws, x.length ≤ sizeLine) : SX w A (fNames 58) (eS want got s e) (eM ws) ((fBody 58).drop 8) (.rt (B (ell8 got ws s e))) := by
  unfold ell8
  by_cases h : e < s
  · rw [if_pos h]
    exact sx_ret (se_if (c := true) (tt_cast (tt_cmp (ee_name rfl) (ee_name rfl) (cmp_gt s e)) (decide_eq_true h)) (fun _ => sx_ret (se_return ee_bool)) (fun h => by cases h))
  · rw [if_neg h]
    exact sx_cons (se_if (c := false) (tt_cast (tt_cmp (ee_name rfl) (ee_name rfl) (cmp_gt s e)) (decide_eq_false h)) (fun h => by cases h) (fun _ => sx_nil)) (e_for ws hws)
theorem e_sub (want got : Str) (s e : Int) (σ : Sg) (h1 : σ.lookup (Str.ofString "startpos") = some (I s)) (h2 : σ.lookup (Str.ofString "endpos") = some (I e)) (h3 : σ.lookup (Str.ofString "want") = some (S want)) (h4 : σ.lookup (Str.ofString "got") = some (S got)) : ∀ x d, (eS want got s e).lookup x = some d → σ.lookup x = some d := sub.lk fun q hq => by
  simp only [eS, List.mem_cons, List.not_mem_nil, or_false] at hq
  rcases hq with rfl | rfl | rfl | rfl <;> assumption
theorem e_subM (ws : List Str) (ms : Ms) (h : ms.lookup (Str.ofString "ws") = some (ws.map .str)) : ∀ x d, (eM ws).lookup x = some d → ms.lookup x = some d := subM.lk fun q hq => by
  obtain rfl := List.mem_singleton.mp hq
  exact h
theorem fits63' {n : Nat} (h : n ≤ sizeLine) : (n : Int) < 9223372036854775808 := by
  have : sizeLine = 16777216 := rfl
  omega
theorem e_6 {A : Around} {want got : Str} {s : Int} (ws : List Str) (hne : ws ≠ []) (hws : ∀ x ∈ ws, x.length ≤ sizeLine) (hz : ws.length ≤ sizeLine) : SX w A (fNames 58) (eS want got s got.length) (eM ws) ((fBody 58).drop 6) (.rt (B (ell6 got ws s))) := by
  obtain ⟨ini, x, rfl⟩ : ∃ ini x, ws = ini ++ [x] := ⟨ws.dropLast, ws.getLast hne, (List.dropLast_concat_getLast hne).symm⟩
  have hx : x.length ≤ sizeLine := hws x (by simp)
  have hlast : (ini ++ [x]).getLastD e0 = x := by simp
  have hdl : (ini ++ [x]).dropLast = ini := by simp
  have hsl : sizeLine = 16777216 := rfl
  have hlen : ((ini ++ [x]).map PyData.str).length = ini.length + 1 := by simp
  have hz' : ini.length + 1 ≤ 16777216 := by rw [← hsl]; simpa using hz
  unfold ell6
  rw [hlast, hdl]
  have h1 : SE w A (fNames 58) (eS want got s got.length) (eM (ini ++ [x])) (atS (fBody 58) 6) (.nx ((Str.ofString "w", S x) :: eS want got s got.length) (eM (ini ++ [x]))) :=
    se_assign_v (ee_sub (ee_name (d := L ((ini ++ [x]).map .str)) rfl) (ee_neg (i := 1) ee_int) (item_list_neg (d := .str x) (by decide) (by rw [hlen]; omega) (by decide) (by rw [hlen, show (-1 + ((ini.length + 1 : Nat) : Int)).toNat = ini.length by omega]; simp))) (sc_str x) (by decide +kernel) rfl
  refine sx_cons h1 ?_
  by_cases h0 : (x.length : Int) = 0
  · rw [if_pos h0]
    exact sx_cons (se_if (c := false) (tt_cast (tt_str (ee_name rfl) (fits63' hx)) (by simpa using h0)) (fun h => by cases h) (fun _ => sx_nil)) (sx_pre (e_8 _ hws) (e_sub _ _ _ _ _ rfl rfl rfl rfl) (fun _ _ h => h))
  · rw [if_neg h0]
    have ht : TT w A (fNames 58) (view ((Str.ofString "w", S x) :: eS want got s got.length) (eM (ini ++ [x]))) (testOf (atS (fBody 58) 7)) true := tt_cast (tt_str (ee_name rfl) (fits63' hx)) (by simpa using h0)
    by_cases he : Txt.endswith got x = true
    · rw [if_pos he]
      refine sx_cons (se_if (c := true) ht (fun _ => sx_cons (se_if (c := true) (tt_cast (tt_bool (ee_meth (ee_name rfl) (.cons (ee_name rfl) .nil) (meth_endswith got x))) he) (fun _ => sx_cons (se_aug (c := I got.length) rfl (ee_len_s (by decide +kernel) (by decide +kernel) (ee_name rfl) hx) (iop_sub _ _) (sc_int _) (sc_int _) (by decide +kernel) rfl) (sx_cons (se_del (k := -1) (j := ini.length) rfl (ee_neg (i := 1) ee_int) (by decide +kernel) ?_ ?_) sx_nil)) (fun h => by cases h)) sx_nil) (fun h => by cases h)) (sx_pre (e_8 ini (fun y hy => hws y (by simp [hy]))) (e_sub _ _ _ _ _ rfl rfl rfl rfl) (e_subM _ _ ?_))
      · rw [hlen, MeetsSeq.seqIndex_neg (by decide) (by omega)]; congr 1; omega
      · rw [hlen, hsl]; exact hz'
      · show some _ = some _
        rw [List.map_append, List.eraseIdx_append_of_length_le (by simp)]
        simp
    · rw [if_neg he]
      exact sx_ret (se_if (c := true) ht (fun _ => sx_ret (se_if (c := false) (tt_cast (tt_bool (ee_meth (ee_name rfl) (.cons (ee_name rfl) .nil) (meth_endswith got x))) (by simpa using he)) (fun h => by cases h) (fun _ => sx_ret (se_return ee_bool)))) (fun h => by cases h))
end Mine
-- F25
namespace Mine
variable {w : World}
theorem e_4 {A : Around} {want got : Str} (ws : List Str) (h2 : 2 ≤ ws.length) (hws : ∀ x ∈ ws, x.length ≤ sizeLine) (hz : ws.length ≤ sizeLine) : SX w A (fNames 58) (eS want got 0 got.length) (eM ws) ((fBody 58).drop 4) (.rt (B (ell4 got ws))) := by
  obtain ⟨x, r, rfl⟩ : ∃ x r, ws = x :: r := by
    cases ws with
    | nil => simp at h2
    | cons x r => exact ⟨x, r, rfl⟩
  have hr : r ≠ [] := fun e => by subst e; simp at h2
  have hx : x.length ≤ sizeLine := hws x (by simp)
  have hsl : sizeLine = 16777216 := rfl
  unfold ell4
  rw [show (x :: r).headD e0 = x from rfl, show (x :: r).tail = r from rfl]
  have h1 : SE w A (fNames 58) (eS want got 0 got.length) (eM (x :: r)) (atS (fBody 58) 4) (.nx ((Str.ofString "w", S x) :: eS want got 0 got.length) (eM (x :: r))) :=
    se_assign_v (ee_sub (ee_name (d := L ((x :: r).map .str)) rfl) ee_int (item_list (d := .str x) (by decide) (by decide) rfl)) (sc_str x) (by decide +kernel) rfl
  refine sx_cons h1 ?_
  by_cases h0 : (x.length : Int) = 0
  · rw [if_pos h0]
    exact sx_cons (se_if (c := false) (tt_cast (tt_str (ee_name rfl) (fits63' hx)) (by simpa using h0)) (fun h => by cases h) (fun _ => sx_nil)) (sx_pre (e_6 _ (by simp) hws hz) (e_sub _ _ _ _ _ rfl rfl rfl rfl) (fun _ _ h => h))
  · rw [if_neg h0]
    have ht : TT w A (fNames 58) (view ((Str.ofString "w", S x) :: eS want got 0 got.length) (eM (x :: r))) (testOf (atS (fBody 58) 5)) true := tt_cast (tt_str (ee_name rfl) (fits63' hx)) (by simpa using h0)
    by_cases he : Txt.startswith got x = true
    · rw [if_pos he]
      refine sx_cons (se_if (c := true) ht (fun _ => sx_cons (se_if (c := true) (tt_cast (tt_bool (ee_meth (ee_name rfl) (.cons (ee_name rfl) .nil) (meth_startswith got x))) he) (fun _ => sx_cons (se_assign_v (d := I x.length) (ee_len_s (by decide +kernel) (by decide +kernel) (ee_name rfl) hx) (sc_int _) (by decide +kernel) rfl) (sx_cons (se_del (k := 0) (j := 0) rfl ee_int (by decide +kernel) ?_ ?_) sx_nil)) (fun h => by cases h)) sx_nil) (fun h => by cases h)) (sx_pre (e_6 r hr (fun y hy => hws y (by simp [hy])) (by simp at hz; omega)) (e_sub _ _ _ _ _ rfl rfl rfl rfl) (e_subM _ _ rfl))
      · simp [seqIndex?]
      · rw [List.length_map]; exact hz
    · rw [if_neg he]
      exact sx_ret (se_if (c := true) ht (fun _ => sx_ret (se_if (c := false) (tt_cast (tt_bool (ee_meth (ee_name rfl) (.cons (ee_name rfl) .nil) (meth_startswith got x))) (by simpa using he)) (fun h => by cases h) (fun _ => sx_ret (se_return ee_bool)))) (fun h => by cases h))
theorem ellipsis_match {A : Around} {n : Nat} (hA : Dp (n + 1) A) (want got : Str) (hg : got.length ≤ sizeLine) (hw : want.length ≤ sizeLine)
    (hsp : (Builtin.Str.occurrences want dots3 0 want.length 1).isEmpty = false → 2 ≤ (Txt.split want dots3).length ∧ (Txt.split want dots3).length ≤ sizeLine ∧ (∀ x ∈ Txt.split want dots3, x.length ≤ sizeLine) ∧ (Builtin.Str.partsBetween want (Builtin.Str.occurrences want dots3 0 want.length (want.length + 1)) dots3.length).length ≤ sizeLine) :
    CALL w A (.ref 62) [S want, S got] (B (ellMatch want got)) := by
  refine call_def (x := Str.ofString "_ellipsis_match") (k := 58) (a := 62) (ps := [Str.ofString "want", Str.ofString "got"]) (n := n) (by decide +kernel) hA (fun pm cd doc vs hl => ?_) (by decide) rfl (by decide +kernel) (by decide +kernel) (fun A' hA' => ?_) rfl rfl rfl
  · match vs, hl with
    | [_, _], _ => rfl
  have hel : ∀ {ns : List (Str × NameKind)} {σ : Sg} {p : Pos}, ns.lookup (Str.ofString "ELLIPSIS_MARKER") = some .globalImplicit → EE w A' ns σ (.Name (Str.ofString "ELLIPSIS_MARKER") p) (S dots3) := fun hk => ee_glob hk fun h M G _ => let ⟨t, e⟩ := G.el; ⟨_, e, isD_str⟩
  unfold ellMatch
  cases hc : (Builtin.Str.occurrences want dots3 0 want.length 1).isEmpty with
  | true =>
    rw [if_pos rfl]
    exact sx_ret (se_if (c := true) (tt_cast (tt_cmp (hel (by decide +kernel)) (ee_name rfl) (cmp_notin dots3 want)) hc) (fun _ => sx_ret (se_return (ee_cmp (ee_name rfl) (ee_name rfl) (cmp_eqs want got)))) (fun h => by cases h))
  | false =>
    rw [if_neg (by decide)]
    obtain ⟨k1, k2, k3, k4⟩ := hsp hc
    have k1' : 2 ≤ ((Txt.split want dots3).map PyData.str).length := by rw [List.length_map]; exact k1
    have k2' : ((Txt.split want dots3).map PyData.str).length ≤ sizeLine := by rw [List.length_map]; exact k2
    refine sx_cons (se_if (c := false) (tt_cast (tt_cmp (hel (by decide +kernel)) (ee_name rfl) (cmp_notin dots3 want)) hc) (fun h => by cases h) (fun _ => sx_nil)) ?_
    refine sx_cons (se_new (en_split (ee_name rfl) (hel (by decide +kernel)) (by decide) hw k4) (by decide +kernel) rfl rfl) ?_
    refine sx_cons (se_assert (tt_cast (tt_cmp (ee_len_l (by decide +kernel) (by decide +kernel) (ee_name rfl) k2') ee_int (cmp_ge _ 2)) (decide_eq_true (Int.ofNat_le.mpr k1')))) ?_
    refine sx_cons (se_swap2 ee_int (ee_len_s (by decide +kernel) (by decide +kernel) (ee_name rfl) hg) (by decide +kernel) (by decide +kernel) (by decide) rfl rfl) ?_
    exact sx_pre (e_4 _ k1 k3 k2) (e_sub _ _ _ _ _ rfl rfl rfl rfl) (fun _ _ h => h)
end Mine
-- F26
namespace Mine
section
open PySem.Builtin.Re
variable {w : World} {A : Around} {s : Shared}
theorem runFor_done (m : Sre.M) (h : m.outcome.isSome = true) : ∀ n, m.runFor n = m
  | 0 => rfl
  | n + 1 => by rw [Sre.M.runFor, if_pos h]
theorem runFor_add (m : Sre.M) : ∀ a b, m.runFor (a + b) = (m.runFor a).runFor b
  | 0, b => by rw [Nat.zero_add]; rfl
  | a + 1, b => by
    rw [Nat.succ_add]
    by_cases h : m.outcome.isSome = true
    · rw [runFor_done m h, runFor_done m h, runFor_done m h]
    · rw [Sre.M.runFor, if_neg h, Sre.M.runFor, if_neg h]
      exact runFor_add _ a b
theorem drive_ends {Q : Sre.M → Shared → Prop} {E : Value → Shared → Prop} : ∀ (k turns : Nat) (m : Sre.M), k < turns → (m.runFor (4 * (k + 1))).outcome.isSome = true → Q (m.runFor (4 * (k + 1))) s → wpAny (model pg w) A (reDrive turns m) Q E s
  | k, 0, m, h, _, _ => absurd h (Nat.not_lt_zero _)
  | k, turns + 1, m, h, ho, hq => by
    unfold reDrive
    show wpAny _ _ (if (m.runFor 4).outcome.isSome = true then pure (m.runFor 4) else _) _ _ _
    have e : m.runFor (4 * (k + 1)) = (m.runFor 4).runFor (4 * k) := by rw [← runFor_add]; congr 1; omega
    by_cases h1 : (m.runFor 4).outcome.isSome = true
    · rw [if_pos h1]
      rw [e, runFor_done _ h1] at hq
      exact wpAny_pure hq
    · rw [if_neg h1]
      refine wpAny_bind (wpAny_rule ?_)
      cases k with
      | zero => exact absurd (by simpa using ho) h1
      | succ k =>
        rw [e] at ho hq
        exact drive_ends k turns (m.runFor 4) (by omega) ho hq
end
end Mine
-- F27
namespace Mine
section
open PySem.Builtin.Re
variable {w : World} {A : Around} {s : Shared}
theorem rules_loop {Q : PUnit → Shared → Prop} {E : Value → Shared → Prop} (p : Nat → Bool) (nm : Nat → String) : ∀ (l : List Nat), Q ⟨⟩ s → wpAny (model pg w) A (forIn l PUnit.unit fun i (_ : PUnit) => (if p i = true then do rule (nm i); pure (ForInStep.yield PUnit.unit) else pure (ForInStep.yield PUnit.unit) : Sem (ForInStep PUnit))) Q E s
  | [], h => wpAny_pure h
  | i :: l, h => by
    rw [List.forIn_cons]
    refine wpAny_bind ?_
    by_cases hp : p i = true
    · rw [if_pos hp]
      exact wpAny_bind (wpAny_rule (wpAny_pure (rules_loop p nm l h)))
    · rw [if_neg hp]
      exact wpAny_pure (rules_loop p nm l h)
theorem run_ends {Q : Option Sre.M → Shared → Prop} {E : Value → Shared → Prop} {k : Nat} {m m' : Sre.M} (hk : k < 2 ^ 64) (he : m.runFor (4 * (k + 1)) = m') (h : (m'.outcome = some .matched ∧ Q (some m') s) ∨ (m'.outcome = some .failed ∧ Q none s)) : wpAny (model pg w) A (reRunToEnd m) Q E s := by
  subst he
  unfold reRunToEnd
  refine wpAny_bind (drive_ends k _ m hk ?_ ?_)
  · rcases h with ⟨h, _⟩ | ⟨h, _⟩ <;> rw [h] <;> rfl
  · refine wpAny_bind (wpAny_mono (rules_loop (s := s) (Q := fun _ s' => s' = s) _ _ _ rfl) (fun _ s' e => ?_) fun _ _ q => q)
    subst e
    rcases h with ⟨h, hq⟩ | ⟨h, hq⟩
    · rw [h]; exact wpAny_pure hq
    · rw [h]; exact wpAny_pure hq
end
end Mine
-- G1
namespace Mine
-- the facts on the method of patterns
theorem pat_attrs : PlainAttrs "re.Pattern" :=
  ⟨⟨"object.__getattribute__", by rw [typeLookup_type, builtinLookup_eq_fast]; kernel_rfl, by decide +kernel⟩, by rw [typeLookup_type, builtinLookup_eq_fast]; kernel_rfl⟩
theorem pat_slot : Slot "re.Pattern" "sub" "re.Pattern.sub" :=
  .of (owner := "re.Pattern") (n := "sub") (by rw [typeLookup_type, builtinLookup_eq_fast]; kernel_rfl) (by decide +kernel) (by decide +kernel) (by decide +kernel)
    (by first | exact .inl (by decide +kernel) | exact .inr (by decide +kernel)) (by rw [isSubtype_type]; kernel_rfl)
theorem pat_type : typeOf (.builtin "re.Pattern.sub") = pure (.type "method_descriptor") := by show builtinType _ = _; rw [builtinType_eq_fast]; kernel_rfl
theorem pat_entry : entryFor table "re.Pattern.sub" = some Builtin.«re.Pattern.sub» := entryFor_of_tree (by kernel_rfl)
theorem pat_loop_entry : entryFor table "re.Pattern.sub.loop" = some Builtin.«re.Pattern.sub.loop» := entryFor_of_tree (by kernel_rfl)
theorem pat_loop_plain : plainId "re.Pattern.sub.loop" = true := by decide +kernel
theorem pat_owner : Manifest.owners.lookup (String.ofList ['n', 'r', 'e', 't', 't', 'a', 'P', '.', 'e', 'r'].reverse) = some Manifest.sig_re_Pattern := by kernel_rfl
theorem pat_args (a b c : Value) : argsOk "re.Pattern.sub" ⟨[a, b, c], []⟩ := by
  unfold argsOk; rw [signature?_of (id := "re.Pattern.sub") (n := ['b', 'u', 's']) (o := ['n', 'r', 'e', 't', 't', 'a', 'P', '.', 'e', 'r']) (by kernel_rfl) pat_owner]; kernel_rfl
end Mine
-- G2
namespace Mine
open PySem.Sre
theorem step_exec {m : M} (ho : m.outcome = none) (ha : m.answer = none) (hp : m.pc < m.code.size) : m.step = m.exec := by
  unfold M.step
  rw [if_neg (by rw [ho]; decide)]
  simp only [ha]
  rw [if_pos hp]
theorem accepts_lit {code : Array Nat} {i c : Nat} {sn : Sre.Seen} (hw : code.getD i 0 = 16) : accepts code i c sn = .ok (c == code.getD (i + 1) 0, sn) := by
  unfold accepts
  simp only [hw]
  rfl
theorem exec_lit {m : M} (hw : m.code.getD m.pc 0 = 16) : m.exec = (if m.pos ≥ m.lim then { m with seen := m.seen.add 16 }.say false else
    if m.text.getD m.pos 0 = m.code.getD (m.pc + 1) 0 then { m with seen := m.seen.add 16, pc := m.pc + 2, pos := m.pos + 1 } else { m with seen := m.seen.add 16 }.say false) := by
  unfold M.exec
  have e0 : m.word 0 = 16 := by unfold M.word; rw [Nat.add_zero, hw]
  have e : ops[(16 : Nat)]? = some .LITERAL := rfl
  simp only [e0, e]
  by_cases hl : m.pos ≥ m.lim
  · rw [if_pos hl, if_pos hl]
  · rw [if_neg hl, if_neg hl, accepts_lit hw]
    by_cases h : m.text.getD m.pos 0 = m.code.getD (m.pc + 1) 0
    · rw [if_pos h]
      have : (m.text.getD m.pos 0 == m.code.getD (m.pc + 1) 0) = true := by simpa using h
      rw [this]
      show _ = _
      have hi : itemWidth m.code m.pc = 2 := by unfold itemWidth; rw [hw]; rfl
      simp only [hi]
    · rw [if_neg h]
      have : (m.text.getD m.pos 0 == m.code.getD (m.pc + 1) 0) = false := by simpa using h
      rw [this]
theorem run_step {m m' : M} {n : Nat} (ho : m.outcome = none) (h : m.step = m') : m.runFor (n + 1) = m'.runFor n := by
  subst h
  rw [M.runFor, if_neg (by rw [ho]; decide)]
noncomputable def c2 : Array Nat := #[14, 9, 4, 1, 2, 16, 10, 16, 13, 0, 7, 7, 16, 13, 16, 10, 15, 18, 5, 16, 10, 15, 13, 11, 16, 13, 5, 5, 0, 16, 10, 1, 15, 2, 0, 1]
noncomputable def c1 : Array Nat := #[14, 4, 0, 1, 1, 6, 1, 16, 46, 1]
/-- a state of a run on a code, from place p on -/
abbrev mst (c text : Array Nat) (lim st ps pc hd : Nat) (om : Bool) (fr : List Sre.Frame) (wt : Nat) (sn : Sre.Seen) (an : Option Bool) : M :=
  { code := c, text := text, lim := lim, start := st, lastStart := lim, pc := pc, pos := ps, handed := hd, outermost := om, marks := #[], frames := fr, weight := wt, seen := sn, answer := an }
abbrev fS (pc ps : Nat) (b : Bool) : Sre.Frame := { wait := .nextStart, pc := pc, pos := ps, outermost := b }
abbrev fB (pc ps : Nat) (b : Bool) : Sre.Frame := { wait := .nextBranch, pc := pc, pos := ps, outermost := b }
abbrev fN (pc ps : Nat) (b : Bool) : Sre.Frame := { wait := .lookNot, pc := pc, pos := ps, outermost := b }
abbrev ended (m : M) (o : Sre.Outcome) : M := { m with outcome := some o }
section
variable {text : Array Nat} {lim s : Nat} {sn : Sre.Seen} {b : Bool}
theorem lit2 {ps pc hd c : Nat} {om : Bool} {fr : List Sre.Frame} {wt : Nat} (hw : c2.getD pc 0 = 16) (hc : c2.getD (pc + 1) 0 = c) (hp : pc < 36) (hl : ps < lim) (ht : text.getD ps 0 = c) :
    (mst c2 text lim s ps pc hd om fr wt sn none).step = mst c2 text lim s (ps + 1) (pc + 2) hd om fr wt (sn.add 16) none := by
  rw [step_exec rfl rfl hp, exec_lit hw, if_neg (Nat.not_le.mpr hl), if_pos (ht.trans hc.symm)]
theorem nolit2 {ps pc hd c : Nat} {om : Bool} {fr : List Sre.Frame} {wt : Nat} (hw : c2.getD pc 0 = 16) (hc : c2.getD (pc + 1) 0 = c) (hp : pc < 36) (ht : ps < lim → text.getD ps 0 ≠ c) :
    (mst c2 text lim s ps pc hd om fr wt sn none).step = mst c2 text lim s ps pc hd om fr wt (sn.add 16) (some false) := by
  rw [step_exec rfl rfl hp, exec_lit hw]
  by_cases hl : ps ≥ lim
  · rw [if_pos hl]; rfl
  · rw [if_neg hl, if_neg (fun e => ht (Nat.not_le.mp hl) (e.trans hc))]; rfl
/-- the end of a match -/
theorem fin2 {hd pc e : Nat} {n : Nat} : ∃ m', (mst c2 text lim s e 35 hd b [fB pc s b, fS 10 s b] 2 sn none).runFor (n + 4) = m' ∧ m'.outcome = some .matched ∧ m'.start = s ∧ m'.handed = e := by
  refine ⟨_, Eq.refl _, ?_⟩
  rw [run_step (m' := mst c2 text lim s e 35 e b [fB pc s b, fS 10 s b] 2 (sn.add 1) (some true)) rfl (by cases b <;> rfl)]
  rw [run_step (m' := mst c2 text lim s s pc e b [fS 10 s b] 1 (sn.add 1) (some true)) rfl rfl]
  rw [run_step (m' := mst c2 text lim s s 10 e b [] 0 (sn.add 1) (some true)) rfl rfl]
  rw [run_step (m' := ended (mst c2 text lim s s 10 e b [] 0 (sn.add 1) (some true)) .matched) rfl rfl]
  rw [runFor_done _ rfl]
  exact ⟨rfl, rfl, rfl⟩
theorem run_lf (hl : s < lim) (h1 : text.getD s 0 = 10) {n : Nat} : ∃ m', (mst c2 text lim s s 10 s b [fS 10 s b] 1 sn none).runFor (n + 12) = m' ∧ m'.outcome = some .matched ∧ m'.start = s ∧ m'.handed = s + 1 := by
  rw [run_step (m' := mst c2 text lim s s 12 s b [fB 11 s b, fS 10 s b] 2 (sn.add 7) none) rfl rfl]
  rw [run_step rfl (nolit2 (c := 13) rfl rfl (by decide) (fun _ => by rw [h1]; decide))]
  rw [run_step (m' := mst c2 text lim s s 19 s b [fB 18 s b, fS 10 s b] 2 ((sn.add 7).add 16) none) rfl rfl]
  rw [run_step rfl (lit2 (c := 10) rfl rfl (by decide) hl h1)]
  rw [run_step (m' := mst c2 text lim s (s + 1) 35 s b [fB 18 s b, fS 10 s b] 2 ((((sn.add 7).add 16).add 16).add 15) none) rfl rfl]
  exact fin2
theorem run_crlf (hl : s + 1 < lim) (h1 : text.getD s 0 = 13) (h2 : text.getD (s + 1) 0 = 10) {n : Nat} : ∃ m', (mst c2 text lim s s 10 s b [fS 10 s b] 1 sn none).runFor (n + 12) = m' ∧ m'.outcome = some .matched ∧ m'.start = s ∧ m'.handed = s + 2 := by
  rw [run_step (m' := mst c2 text lim s s 12 s b [fB 11 s b, fS 10 s b] 2 (sn.add 7) none) rfl rfl]
  rw [run_step rfl (lit2 (c := 13) rfl rfl (by decide) (by omega) h1)]
  rw [run_step rfl (lit2 (c := 10) rfl rfl (by decide) hl h2)]
  rw [run_step (m' := mst c2 text lim s (s + 2) 35 s b [fB 11 s b, fS 10 s b] 2 ((((sn.add 7).add 16).add 16).add 15) none) rfl rfl]
  exact fin2
theorem run_cr (hl : s < lim) (h1 : text.getD s 0 = 13) (h2 : s + 1 < lim → text.getD (s + 1) 0 ≠ 10) {n : Nat} : ∃ m', (mst c2 text lim s s 10 s b [fS 10 s b] 1 sn none).runFor (n + 20) = m' ∧ m'.outcome = some .matched ∧ m'.start = s ∧ m'.handed = s + 1 := by
  rw [run_step (m' := mst c2 text lim s s 12 s b [fB 11 s b, fS 10 s b] 2 (sn.add 7) none) rfl rfl]
  rw [run_step rfl (lit2 (c := 13) rfl rfl (by decide) (by omega) h1)]
  rw [run_step rfl (nolit2 (c := 10) rfl rfl (by decide) h2)]
  rw [run_step (m' := mst c2 text lim s s 19 s b [fB 18 s b, fS 10 s b] 2 (((sn.add 7).add 16).add 16) none) rfl rfl]
  rw [run_step rfl (nolit2 (c := 10) rfl rfl (by decide) (fun _ => by rw [h1]; decide))]
  rw [run_step (m' := mst c2 text lim s s 24 s b [fB 23 s b, fS 10 s b] 2 ((((sn.add 7).add 16).add 16).add 16) none) rfl rfl]
  rw [run_step rfl (lit2 (c := 13) rfl rfl (by decide) (by omega) h1)]
  rw [run_step (m' := mst c2 text lim s (s + 1) 29 (s + 1) false [fN 26 (s + 1) b, fB 23 s b, fS 10 s b] 3 ((((((sn.add 7).add 16).add 16).add 16).add 16).add 5) none) rfl rfl]
  rw [run_step rfl (nolit2 (c := 10) rfl rfl (by decide) h2)]
  rw [run_step (m' := mst c2 text lim s (s + 1) 32 (s + 1) b [fB 23 s b, fS 10 s b] 2 (((((((sn.add 7).add 16).add 16).add 16).add 16).add 5).add 16) none) rfl rfl]
  rw [run_step (m' := mst c2 text lim s (s + 1) 35 (s + 1) b [fB 23 s b, fS 10 s b] 2 ((((((((sn.add 7).add 16).add 16).add 16).add 16).add 5).add 16).add 15) none) rfl rfl]
  exact fin2
end
end Mine
-- G3
namespace Mine
open PySem.Sre
noncomputable def nl (text : Array Nat) (lim : Nat) : Nat → Nat → Option Nat
  | 0, _ => none
  | f + 1, s => if s ≥ lim then none else if (text.getD s 0 == 10 || text.getD s 0 == 13) = true then some s else nl text lim f (s + 1)
noncomputable def end2 (text : Array Nat) (lim s : Nat) : Nat := if text.getD s 0 = 13 ∧ s + 1 < lim ∧ text.getD (s + 1) 0 = 10 then s + 2 else s + 1
/-- a search from p on ends so -/
noncomputable def Nxt (code text : Array Nat) (lim p : Nat) (r : Option (Nat × Nat)) : Prop :=
  ∃ k, k < 2 ^ 64 ∧ ∃ m', (forSearch code text 0 p lim false).runFor (4 * (k + 1)) = m' ∧ (match r with
    | none => m'.outcome = some .failed
    | some (s, e) => m'.outcome = some .matched ∧ m'.start = s ∧ m'.handed = e)
section
variable {text : Array Nat} {lim s : Nat} {sn : Sre.Seen} {b : Bool}
theorem set2 (c : Nat) (sn : Sre.Seen) : ∃ sn', inSet c2 c c2.size 5 true sn = .ok (c == 10 || c == 13, sn') := by
  show ∃ sn', inSet c2 c 36 5 true sn = _
  have e : inSet c2 c 36 5 true sn = (if (c == 10) = true then .ok (true, sn.add 16) else if (c == 13) = true then .ok (true, (sn.add 16).add 16) else .ok (false, ((sn.add 16).add 16).add 0)) := rfl
  rw [e]
  by_cases h1 : c = 10
  · subst h1; exact ⟨_, rfl⟩
  · by_cases h2 : c = 13
    · subst h2; exact ⟨_, rfl⟩
    · have h1' : (c == 10) = false := by simpa using h1
      have h2' : (c == 13) = false := by simpa using h2
      rw [h1', h2']
      exact ⟨_, rfl⟩
theorem adm2 {m : M} (hc : m.code = c2) (ht : m.text = text) (hl : m.lim = lim) : ∀ (f s : Nat) (sn : Sre.Seen), ∃ sn', M.admitted m f s sn = .ok (nl text lim f s, sn')
  | 0, s, sn => ⟨_, rfl⟩
  | f + 1, s, sn => by
    unfold M.admitted nl
    by_cases h : s ≥ lim
    · rw [if_pos (by rw [hl]; exact h), if_pos h]; exact ⟨_, rfl⟩
    · rw [if_neg (by rw [hl]; exact h), if_neg h, hc, ht]
      obtain ⟨sn', e⟩ := set2 (text.getD s 0) sn
      rw [e]
      by_cases h2 : (text.getD s 0 == 10 || text.getD s 0 == 13) = true
      · rw [if_pos h2, h2]; exact ⟨_, rfl⟩
      · rw [if_neg h2]
        have h2' := Bool.not_eq_true _ ▸ h2
        rw [h2']
        exact adm2 hc ht hl f (s + 1) sn'
theorem nl_some : ∀ {f s r : Nat}, nl text lim f s = some r → s ≤ r ∧ r < lim ∧ (text.getD r 0 = 10 ∨ text.getD r 0 = 13)
  | 0, s, r, h => by cases h
  | f + 1, s, r, h => by
    unfold nl at h
    by_cases h0 : s ≥ lim
    · rw [if_pos h0] at h; cases h
    · rw [if_neg h0] at h
      by_cases h2 : (text.getD s 0 == 10 || text.getD s 0 == 13) = true
      · rw [if_pos h2] at h; cases h
        exact ⟨Nat.le_refl _, by omega, by simpa using h2⟩
      · rw [if_neg h2] at h
        obtain ⟨a, c⟩ := nl_some h
        exact ⟨by omega, c⟩
theorem fs2 (hp : s < lim) : forSearch c2 text 0 s lim false = M.attemptFrom (mst c2 text lim s s 10 s true [] 0 ((({} : Sre.Seen)).add 14) none) s true := by
  show (if (decide (s > lim) || decide (lim - s < 1)) = true then _ else _) = _
  rw [if_neg (by simp; omega)]
  rfl
theorem fs2' (hp : lim ≤ s) : ∃ m', (forSearch c2 text 0 s lim false).runFor 20 = m' ∧ m'.outcome = some .failed := by
  have e : forSearch c2 text 0 s lim false = { mst c2 text lim s s 10 s true [] 0 ((({} : Sre.Seen)).add 14) (some false) with lastStart := 0 } := by
    show (if (decide (s > lim) || decide (lim - s < 1)) = true then _ else _) = _
    rw [if_pos (by simp; omega)]
    rfl
  rw [e]
  exact ⟨_, rfl, rfl⟩
theorem search2 (p : Nat) : Nxt c2 text lim p ((nl text lim (lim + 1 - p) p).map fun s => (s, end2 text lim s)) := by
  refine ⟨4, by decide, ?_⟩
  show ∃ m', (forSearch c2 text 0 p lim false).runFor 20 = m' ∧ _
  by_cases hp : p < lim
  · rw [fs2 hp]
    unfold M.attemptFrom
    rw [if_neg (by show ¬ (!true) = true; decide)]
    obtain ⟨sn, e⟩ := adm2 (m := mst c2 text lim p p 10 p true [] 0 ((({} : Sre.Seen)).add 14) none) (text := text) (lim := lim) rfl rfl rfl (lim + 1 - p) p ((({} : Sre.Seen)).add 14)
    show ∃ m', M.runFor 20 (match M.admitted (mst c2 text lim p p 10 p true [] 0 ((({} : Sre.Seen)).add 14) none) (lim + 1 - p) p ((({} : Sre.Seen)).add 14) with
      | .ok (some s, seen) => _
      | .ok (none, seen) => _
      | .error why => _) = m' ∧ _
    rw [e]
    cases hn : nl text lim (lim + 1 - p) p with
    | none => exact ⟨_, rfl, rfl⟩
    | some s =>
      obtain ⟨h1, h2, h3⟩ := nl_some hn
      show ∃ m', M.runFor 20 (mst c2 text lim s s 10 s true [fS 10 s true] 1 sn none) = m' ∧ m'.outcome = some .matched ∧ m'.start = s ∧ m'.handed = end2 text lim s
      unfold end2
      rcases h3 with h3 | h3
      · rw [if_neg (by rw [h3]; rintro ⟨h, _⟩; cases h)]
        exact run_lf h2 h3
      · by_cases h4 : s + 1 < lim ∧ text.getD (s + 1) 0 = 10
        · rw [if_pos ⟨h3, h4⟩]
          exact run_crlf h4.1 h3 h4.2
        · rw [if_neg (fun q => h4 q.2)]
          exact run_cr h2 h3 fun a c => h4 ⟨a, c⟩
  · have : nl text lim (lim + 1 - p) p = none := by
      cases lim + 1 - p with
      | zero => rfl
      | succ f => rw [nl, if_pos (by omega)]
    rw [this]
    exact fs2' (by omega)
-- the first pattern
noncomputable def bol (text : Array Nat) (s : Nat) : Bool := s == 0 || text.getD (s - 1) 0 == 10
noncomputable def dot (text : Array Nat) (lim : Nat) : Nat → Nat → Option Nat
  | 0, _ => none
  | f + 1, s => if s ≥ lim then none else if (bol text s && text.getD s 0 == 46) = true then some s else dot text lim f (s + 1)
theorem lit1 {ps pc hd c : Nat} {om : Bool} {fr : List Sre.Frame} {wt : Nat} (hw : c1.getD pc 0 = 16) (hc : c1.getD (pc + 1) 0 = c) (hp : pc < 10) (hl : ps < lim) (ht : text.getD ps 0 = c) :
    (mst c1 text lim s ps pc hd om fr wt sn none).step = mst c1 text lim s (ps + 1) (pc + 2) hd om fr wt (sn.add 16) none := by
  rw [step_exec rfl rfl hp, exec_lit hw, if_neg (Nat.not_le.mpr hl), if_pos (ht.trans hc.symm)]
theorem nolit1 {ps pc hd c : Nat} {om : Bool} {fr : List Sre.Frame} {wt : Nat} (hw : c1.getD pc 0 = 16) (hc : c1.getD (pc + 1) 0 = c) (hp : pc < 10) (ht : ps < lim → text.getD ps 0 ≠ c) :
    (mst c1 text lim s ps pc hd om fr wt sn none).step = mst c1 text lim s ps pc hd om fr wt (sn.add 16) (some false) := by
  rw [step_exec rfl rfl hp, exec_lit hw]
  by_cases hl : ps ≥ lim
  · rw [if_pos hl]; rfl
  · rw [if_neg hl, if_neg (fun e => ht (Nat.not_le.mp hl) (e.trans hc))]; rfl
theorem at1 : (mst c1 text lim s s 5 s b [fS 5 s b] 1 sn none).step = if bol text s = true then mst c1 text lim s s 7 s b [fS 5 s b] 1 ((sn.add 6).add 44) none else mst c1 text lim s s 5 s b [fS 5 s b] 1 ((sn.add 6).add 44) (some false) := by
  rfl
/-- an attempt that fails, at s -/
theorem fail1 (h : (bol text s && (decide (s < lim) && text.getD s 0 == 46)) = false) : ∃ sn', ∃ n, n ≤ 2 ∧ ∃ pc, ∀ k, (mst c1 text lim s s 5 s b [fS 5 s b] 1 sn none).runFor (n + k) = (mst c1 text lim s s pc s b [fS 5 s b] 1 sn' (some false)).runFor k := by
  cases hb : bol text s with
  | false =>
    refine ⟨(sn.add 6).add 44, 1, by decide, 5, fun k => ?_⟩
    rw [Nat.add_comm 1 k, run_step rfl (at1.trans (if_neg (by rw [hb]; decide)))]
  | true =>
    refine ⟨((sn.add 6).add 44).add 16, 2, by decide, 7, fun k => ?_⟩
    rw [show 2 + k = k + 1 + 1 by omega, run_step rfl (at1.trans (if_pos hb)), run_step rfl (nolit1 (c := 46) rfl rfl (by decide) fun hl e => ?_)]
    rw [hb, e] at h
    simp [hl] at h
theorem good1 (h1 : bol text s = true) (h2 : s < lim) (h3 : text.getD s 0 = 46) : ∃ m', (mst c1 text lim s s 5 s b [fS 5 s b] 1 sn none).runFor 5 = m' ∧ m'.outcome = some .matched ∧ m'.start = s ∧ m'.handed = s + 1 := by
  rw [run_step rfl (at1.trans (if_pos h1)), run_step rfl (lit1 (c := 46) rfl rfl (by decide) h2 h3)]
  rw [run_step (m' := mst c1 text lim s (s + 1) 9 (s + 1) b [fS 5 s b] 1 ((((sn.add 6).add 44).add 16).add 1) (some true)) rfl (by cases b <;> rfl)]
  exact ⟨_, rfl, rfl, rfl, rfl⟩
theorem resume1 {pc : Nat} {k : Nat} (h : s < lim) : (mst c1 text lim s s pc s b [fS 5 s b] 1 sn (some false)).runFor (k + 1) = (mst c1 text lim (s + 1) (s + 1) 5 (s + 1) false [fS 5 (s + 1) false] 1 sn none).runFor k := by
  refine run_step rfl ?_
  show (if s < lim then _ else _) = _
  rw [if_pos h]
  rfl
theorem over1 {pc : Nat} (h : ¬ s < lim) : ∃ m', (mst c1 text lim s s pc s b [fS 5 s b] 1 sn (some false)).runFor 2 = m' ∧ m'.outcome = some .failed := by
  rw [run_step (m' := mst c1 text lim s s 5 s b [] 0 sn (some false)) rfl (by show (if s < lim then _ else _) = _; rw [if_neg h]; rfl)]
  exact ⟨_, rfl, rfl⟩
noncomputable def End1 (text : Array Nat) (m' : M) (r : Option Nat) : Prop := match r with
  | none => m'.outcome = some .failed
  | some s => m'.outcome = some .matched ∧ m'.start = s ∧ m'.handed = s + 1
theorem search1 : ∀ (d s : Nat) (b : Bool) (sn : Sre.Seen), lim - s = d → ∃ n, n ≤ 3 * d + 6 ∧ ∃ m', (mst c1 text lim s s 5 s b [fS 5 s b] 1 sn none).runFor n = m' ∧ End1 text m' (dot text lim (lim + 1 - s) s)
  | 0, s, b, sn, hd => by
    have hl : ¬ s < lim := by omega
    obtain ⟨sn', n, hn, pc, h⟩ := fail1 (text := text) (lim := lim) (s := s) (b := b) (sn := sn) (by simp [hl])
    obtain ⟨m', h1, h2⟩ := over1 (text := text) (sn := sn') (b := b) (pc := pc) hl
    refine ⟨n + 2, by omega, m', (h 2).trans h1, ?_⟩
    have : dot text lim (lim + 1 - s) s = none := by
      cases lim + 1 - s with
      | zero => rfl
      | succ f => rw [dot, if_pos (by omega)]
    rw [this]
    exact h2
  | d + 1, s, b, sn, hd => by
    have hl : s < lim := by omega
    have hf : lim + 1 - s = (lim + 1 - (s + 1)) + 1 := by omega
    rw [hf, dot, if_neg (by omega)]
    by_cases hg : (bol text s && text.getD s 0 == 46) = true
    · rw [if_pos hg]
      have hg' := hg
      simp only [Bool.and_eq_true, beq_iff_eq] at hg'
      obtain ⟨m', h1, h2⟩ := good1 (b := b) (sn := sn) hg'.1 hl hg'.2
      exact ⟨5, by omega, m', h1, h2⟩
    · rw [if_neg hg]
      obtain ⟨sn', n, hn, pc, h⟩ := fail1 (text := text) (lim := lim) (s := s) (b := b) (sn := sn) (by simpa [hl] using hg)
      obtain ⟨n2, hn2, m', h1, h2⟩ := search1 d (s + 1) false sn' (by omega)
      exact ⟨n + (n2 + 1), by omega, m', (h _).trans ((resume1 hl).trans h1), h2⟩
theorem fs1 (hp : s < lim) : forSearch c1 text 0 s lim false = mst c1 text lim s s 5 s true [fS 5 s true] 1 ((({} : Sre.Seen)).add 14) none := by
  show (if (decide (s > lim) || decide (lim - s < 1)) = true then _ else _) = _
  rw [if_neg (by simp; omega)]
  rfl
theorem fs1' (hp : lim ≤ s) : ∃ m', (forSearch c1 text 0 s lim false).runFor 4 = m' ∧ m'.outcome = some .failed := by
  have e : forSearch c1 text 0 s lim false = { mst c1 text lim s s 5 s true [] 0 ((({} : Sre.Seen)).add 14) (some false) with lastStart := 0 } := by
    show (if (decide (s > lim) || decide (lim - s < 1)) = true then _ else _) = _
    rw [if_pos (by simp; omega)]
    rfl
  rw [e]
  exact ⟨_, rfl, rfl⟩
theorem end1_done {m' : M} {r : Option Nat} (h : End1 text m' r) : m'.outcome.isSome = true := by
  cases r with
  | none => rw [show m'.outcome = _ from h]; rfl
  | some s => rw [h.1]; rfl
theorem search1' (p : Nat) (hlim : lim < 2 ^ 32) : Nxt c1 text lim p ((dot text lim (lim + 1 - p) p).map fun s => (s, s + 1)) := by
  by_cases hp : p < lim
  · obtain ⟨n, hn, m', h1, h2⟩ := search1 (text := text) (lim := lim) (lim - p) p true ((({} : Sre.Seen)).add 14) rfl
    refine ⟨n, by omega, m', ?_, ?_⟩
    · rw [fs1 hp, show 4 * (n + 1) = n + (3 * n + 4) by omega, runFor_add, h1, runFor_done _ (end1_done h2)]
    · cases hd : dot text lim (lim + 1 - p) p with
      | none => rw [hd] at h2; exact h2
      | some s => rw [hd] at h2; exact h2
  · have : dot text lim (lim + 1 - p) p = none := by
      cases lim + 1 - p with
      | zero => rfl
      | succ f => rw [dot, if_pos (by omega)]
    rw [this]
    exact ⟨0, by decide, fs1' (by omega)⟩
end
end Mine
-- G4
namespace Mine
open PySem.Builtin.Re
/-- a pattern and its words lie there -/
structure PatAt (h : Heap) (P C : Addr) (code : List Int) : Prop where
  p : ∃ a b, h.get? P = some { cls := .type "re.Pattern", data := .fields #[a, b, rawInt 0, .none, .none, .ref C, rawInt 0] }
  c : h.get? C = some (rawTup code)
theorem PatAt.up {h h' : Heap} {P C : Addr} {code : List Int} (x : PatAt h P C code) (u : Up h h') : PatAt h' P C code := ⟨let ⟨a, b, e⟩ := x.p; ⟨a, b, u _ _ e⟩, u _ _ x.c⟩
section
variable {w : World} {A : Around} {s : Shared}
theorem raw_back (code : List Int) : ((code.map rawInt).toArray.map reRawOf).map (·.toNat) = (code.map Int.toNat).toArray := by
  apply Array.toList_inj.mp
  simp [reRawOf, rawInt, Function.comp_def]
theorem wp_target {P C : Addr} {code : List Int} {x : Str} {t : Tok} {Q : ReTarget → Shared → Prop} {E : Value → Shared → Prop} (hp : PatAt s.heap P C code)
    (h : Q { pattern := .ref P, string := .str x t, code := (code.map Int.toNat).toArray, text := x.cps, kind := 0, groups := 0, pos := 0, lim := x.cps.size } s) : wpAny (model pg w) A (reWholeTarget (.ref P) (.str x t)) Q E s := by
  obtain ⟨⟨a, b, hp⟩, hc⟩ := hp
  unfold reWholeTarget
  refine wpAny_bind (wpAny_fieldsOf hp rfl ?_)
  show wpAny _ _ (reRawItems (.ref C) >>= fun r => pure ({ pattern := .ref P, string := .str x t, code := r.map (·.toNat), text := x.cps, kind := 0, groups := 0, pos := 0, lim := x.cps.size } : ReTarget)) _ _ _
  refine wpAny_bind ?_
  unfold reRawItems
  refine wpAny_bind (wpAny_seqItems hc rfl (wpAny_pure (wpAny_pure ?_)))
  show Q ({ pattern := .ref P, string := .str x t, code := ((code.map rawInt).toArray.map reRawOf).map (·.toNat), text := x.cps, kind := 0, groups := 0, pos := 0, lim := x.cps.size } : ReTarget) s
  rw [raw_back]
  exact h
/-- the pieces of a text, one after the other -/
noncomputable def subL (nxt : Nat → Option (Nat × Nat)) (text : Array Nat) (rep : Str) : Nat → Nat → List Str
  | 0, _ => []
  | f + 1, p => match nxt p with
    | none => if p < text.size then [⟨text.extract p text.size⟩] else []
    | some (s, e) => (if p < s then [⟨text.extract p s⟩] else []) ++ rep :: subL nxt text rep f e
abbrev Fin' (A : Around) (w : World) (R : Result → Shared → Prop) : Fin → Shared → Prop := fun fin s' => match fin with | .done f => R (.ok f) s' | .again c' => c'.quiet = true ∧ codeAny (model pg w) A c' R s'
theorem wp_slice {text : Array Nat} {b e : Nat} {Q : Value → Shared → Prop} {E : Value → Shared → Prop} (hz : (text.extract b e).size ≤ sizeLine) (h : ∀ t k, Q (.str ⟨text.extract b e⟩ t) { s with toks := k }) : wpAny (model pg w) A (reSlice text 0 b e) Q E s :=
  wpAny_mkStr (h _ _) hz
/-- strs lie in a list at a -/
noncomputable def StrsAt (h : Heap) (a : Addr) (xs : List Str) : Prop := ∃ (l : List (Str × Tok)), l.map (·.1) = xs ∧ h.PlainList a (strValues l).toArray
theorem wp_push {a : Addr} {xs : List Str} {y : Str} {t : Tok} {s0 : Shared} {Q : Unit → Shared → Prop} {E : Value → Shared → Prop} (hl : StrsAt s.heap a xs) (hz : xs.length < sizeLine) (k0 : Keeps s0 s) (ha : s0.heap.get? a = none)
    (h : ∀ s', Keeps s0 s' → StrsAt s'.heap a (xs ++ [y]) → Q () s') : wpAny (model pg w) A (updateSeq a (·.push (.str y t))) Q E s := by
  obtain ⟨l, rfl, n, ho⟩ := hl
  have hs : (strValues l).toArray.size = l.length := by simp [strValues]
  rw [List.length_map] at hz
  refine wpAny_updateSeq ho rfl (h _ ?_ ⟨l ++ [(y, t)], by simp, n + 1, ?_⟩) (by rw [hs]; omega) (by rw [Array.size_push, hs]; omega)
  · have c1 : Chg [a] s0 { s with heap := s.heap.update a (Obj.mapSeq (·.push (.str y t))) } := (Keeps.chg k0).trs ⟨_, s.toks, rfl, fun b o hb e => by
      rw [Heap.get?_update_ne _ _ _ _ (by simpa using hb)]; exact e⟩
    exact c1.keeps fun t ht => by rw [List.mem_singleton.mp ht]; exact ha
  · rw [Heap.get?_update_self _ ho rfl]
    simp [Obj.mapSeq, strValues]
theorem sub_loop {P C a : Addr} {code : List Int} {x rep : Str} {t tr : Tok} {nxt : Nat → Option (Nat × Nat)} {s0 : Shared} {R : Result → Shared → Prop} {E : Value → Shared → Prop} (hp : PatAt s0.heap P C code) (ha : s0.heap.get? a = none)
    (hn : ∀ p, p ≤ x.cps.size → Nxt (code.map Int.toNat).toArray x.cps x.cps.size p (nxt p)) (hr : ∀ p s e, nxt p = some (s, e) → p ≤ s ∧ s < e ∧ e ≤ x.cps.size) (hx : x.cps.size ≤ sizeLine) (res : Str) (hR : ∀ t' s', Keeps s0 s' → R (.ok (.ret (.str res t'))) s') :
    ∀ (fuel p : Nat) (n : Int) (acc : List Str) (s : Shared) (u1 u2 u3 u4 u5 : Tok), x.cps.size < p + fuel → p ≤ x.cps.size → Keeps s0 s → StrsAt s.heap a acc → JoinOk e0 (acc ++ subL nxt x.cps rep fuel p) = true → (acc ++ subL nxt x.cps rep fuel p).length < sizeLine → res = Txt.join e0 (acc ++ subL nxt x.cps rep fuel p) →
      wpAny (model pg w) A.in1 (Builtin.«re.Pattern.sub.loop» ⟨[.ref P, .str x t, .str rep tr, .int 0 u1, .int 0 u2, .int n u3, .int (p : Int) u4, .int (p : Int) u5, .bool false, .ref a, .bool false], []⟩) (Fin' A w R) E s
  | 0, p, n, acc, s, u1, u2, u3, u4, u5, h1, h2, k, hl, hj, hz, he => by omega
  | fuel + 1, p, n, acc, s, u1, u2, u3, u4, u5, h1, h2, k, hl, hj, hz, he => by
    have hs : ∀ b e, e ≤ x.cps.size → (x.cps.extract b e).size ≤ sizeLine := fun b e h => by rw [Array.size_extract]; omega
    unfold Builtin.«re.Pattern.sub.loop»
    dsimp only
    refine wpAny_bind (wp_target (hp.up (Keeps.upto k)) ?_)
    have hnext : ∀ (m : Sre.M) (acc' : List Str) (s1 : Shared) e, m.handed = e → m.start ≠ e → p < e → e ≤ x.cps.size → Keeps s0 s1 → StrsAt s1.heap a acc' → acc' ++ rep :: subL nxt x.cps rep fuel e = acc ++ subL nxt x.cps rep (fuel + 1) p →
        wpAny (model pg w) A.in1 (do updateSeq a (·.push (.str rep tr)); again (.builtin "re.Pattern.sub.loop" ⟨[.ref P, .str x t, .str rep tr, rawInt 0, rawInt 0, rawInt (n + 1), rawInt m.handed, rawInt m.handed, .bool (m.handed == m.start), .ref a, .bool false], []⟩)) (Fin' A w R) E s1 := fun m acc' s1 e e1 e2 e3 e4 k1 hl1 hacc => by
      have hz1 : acc'.length < sizeLine := by
        rw [← hacc, List.length_append, List.length_cons] at hz; omega
      refine wpAny_bind (wp_push hl1 hz1 k1 ha fun s2 k2 hl2 => wpAny_pure ⟨plainId_quiet pat_loop_plain _, codeAny_builtin pat_loop_entry ?_⟩)
      rw [Around.under_plainId pat_loop_plain, e1, show (e == m.start) = false by simpa using fun h => e2 h.symm]
      have hacc2 : (acc' ++ [rep]) ++ subL nxt x.cps rep fuel e = acc ++ subL nxt x.cps rep (fuel + 1) p := by rw [← hacc]; simp
      exact sub_loop hp ha hn hr hx res hR fuel e (n + 1) (acc' ++ [rep]) s2 _ _ _ _ _ (by omega) e4 k2 hl2 (by rw [hacc2]; exact hj) (by rw [hacc2]; exact hz) (by rw [hacc2]; exact he)
    have hend : ∀ (acc' : List Str) (s1 : Shared), Keeps s0 s1 → StrsAt s1.heap a acc' → acc' = acc ++ subL nxt x.cps rep (fuel + 1) p → 
        wpAny (model pg w) A.in1 (do
          let joiner ← reSlice x.cps 0 0 0
          let text ← if ((← seqItems? (.ref a)).getD #[]).isEmpty then pure joiner else call (.builtin "str.join") [joiner, .ref a]
          ret text) (Fin' A w R) E s1 := fun acc' s1 k1 hl1 hacc => by
      obtain ⟨l, hl2, nn, ho⟩ := hl1
      refine wpAny_bind (wp_slice (by rw [Array.size_extract]; omega) fun t1 k2 => ?_)
      have e00 : (⟨x.cps.extract 0 0⟩ : Str) = e0 := by
        rw [Array.extract_zero]; rfl
      rw [e00]
      refine wpAny_bind (wpAny_seqItems (s := { s1 with toks := k2 }) ho rfl ?_)
      show wpAny _ _ (if (strValues l).toArray.isEmpty = true then (pure (.str e0 t1) >>= fun v => ret v) else (call (.builtin "str.join") [.str e0 t1, .ref a] >>= fun v => ret v)) _ _ _
      cases l with
      | nil =>
        rw [if_pos (show (strValues []).toArray.isEmpty = true from rfl)]
        refine wpAny_bind (wpAny_pure (wpAny_pure ?_))
        have : res = e0 := by rw [he, ← hacc, ← hl2]; rfl
        exact this ▸ hR t1 _ (Keeps.tok k1 _)
      | cons q l =>
        rw [if_neg (by simp [strValues])]
        refine wpAny_bind (SC.join (s := { s1 with toks := k2 }) (l := q :: l) ⟨_, ho, rfl, nn, rfl⟩ (hl2.trans hacc) (by rw [← hj]) fun t' k3 => wpAny_pure ?_)
        show R (.ok (.ret (.str (Txt.join e0 (acc ++ subL nxt x.cps rep (fuel + 1) p)) t'))) _
        rw [← he]
        exact hR t' _ (Keeps.tok k1 _)
    obtain ⟨kk, hk, m', hrun, hpost⟩ := hn p h2
    show wpAny _ _ (reNextFound { pattern := .ref P, string := .str x t, code := (code.map Int.toNat).toArray, text := x.cps, kind := 0, groups := 0, pos := 0, lim := x.cps.size } p false >>= fun r => match r with
      | some m => if p < m.start then (do
            let v ← reSlice x.cps 0 p m.start
            updateSeq a (·.push v)
            updateSeq a (·.push (.str rep tr)); again (.builtin "re.Pattern.sub.loop" ⟨[.ref P, .str x t, .str rep tr, rawInt 0, rawInt 0, rawInt (n + 1), rawInt m.handed, rawInt m.handed, .bool (m.handed == m.start), .ref a, .bool false], []⟩))
          else (do updateSeq a (·.push (.str rep tr)); again (.builtin "re.Pattern.sub.loop" ⟨[.ref P, .str x t, .str rep tr, rawInt 0, rawInt 0, rawInt (n + 1), rawInt m.handed, rawInt m.handed, .bool (m.handed == m.start), .ref a, .bool false], []⟩))
      | none => if p < x.cps.size then (do
            let v ← reSlice x.cps 0 p x.cps.size
            updateSeq a (·.push v)
            let joiner ← reSlice x.cps 0 0 0
            let text ← if ((← seqItems? (.ref a)).getD #[]).isEmpty then pure joiner else call (.builtin "str.join") [joiner, .ref a]
            ret text)
          else (do
            let joiner ← reSlice x.cps 0 0 0
            let text ← if ((← seqItems? (.ref a)).getD #[]).isEmpty then pure joiner else call (.builtin "str.join") [joiner, .ref a]
            ret text)) _ _ _
    refine wpAny_bind (run_ends hk hrun ?_)
    cases hnp : nxt p with
    | none =>
      rw [hnp] at hpost
      refine .inr ⟨hpost, ?_⟩
      dsimp only
      by_cases hlt : p < x.cps.size
      · rw [if_pos hlt]
        have hsub : subL nxt x.cps rep (fuel + 1) p = [⟨x.cps.extract p x.cps.size⟩] := by rw [subL, hnp]; exact if_pos hlt
        refine wpAny_bind (wp_slice (hs _ _ (Nat.le_refl _)) fun t1 k2 => ?_)
        refine wpAny_bind (wp_push (s := { s with toks := k2 }) hl ?_ (Keeps.tok k _) ha fun s2 k3 hl2 => hend _ s2 k3 hl2 (by rw [hsub]))
        rw [List.length_append] at hz; omega
      · rw [if_neg hlt]
        have hsub : subL nxt x.cps rep (fuel + 1) p = [] := by rw [subL, hnp]; exact if_neg hlt
        exact hend acc s k hl (by rw [hsub, List.append_nil])
    | some q =>
      obtain ⟨st, e⟩ := q
      rw [hnp] at hpost
      obtain ⟨ho, rfl, rfl⟩ := hpost
      obtain ⟨r1, r2, r3⟩ := hr _ _ _ hnp
      refine .inl ⟨ho, ?_⟩
      dsimp only
      by_cases hlt : p < m'.start
      · rw [if_pos hlt]
        have hsub : subL nxt x.cps rep (fuel + 1) p = [⟨x.cps.extract p m'.start⟩] ++ rep :: subL nxt x.cps rep fuel m'.handed := by rw [subL, hnp]; dsimp only; rw [if_pos hlt]
        refine wpAny_bind (wp_slice (hs _ _ (by omega)) fun t1 k2 => ?_)
        refine wpAny_bind (wp_push (s := { s with toks := k2 }) hl ?_ (Keeps.tok k _) ha fun s2 k3 hl2 => hnext m' _ s2 _ rfl (by omega) (by omega) r3 k3 hl2 (by rw [hsub]; simp))
        rw [List.length_append] at hz; omega
      · rw [if_neg hlt]
        have hsub : subL nxt x.cps rep (fuel + 1) p = rep :: subL nxt x.cps rep fuel m'.handed := by rw [subL, hnp]; dsimp only; rw [if_neg hlt]; rfl
        exact hnext m' acc s _ rfl (by omega) (by omega) r3 k hl (by rw [hsub])
end
end Mine
-- G5
namespace Mine
open PySem.Builtin.Re
section
variable {w : World} {A : Around} {ns : List (Str × NameKind)} {σ : Sg} {M : List Addr} {g : Heap} {env : Env} {s : Shared}
theorem no_call : typeLookup (.type "str") "__call__" = pure none := by rw [typeLookup_type, builtinLookup_eq_fast]; kernel_rfl
theorem wp_sub {P C : Addr} {code : List Int} {x rep : Str} {t tr : Tok} {nxt : Nat → Option (Nat × Nat)} {R : Result → Shared → Prop} {E : Value → Shared → Prop} (hp : PatAt s.heap P C code)
    (hn : ∀ p, p ≤ x.cps.size → Nxt (code.map Int.toNat).toArray x.cps x.cps.size p (nxt p)) (hr : ∀ p s e, nxt p = some (s, e) → p ≤ s ∧ s < e ∧ e ≤ x.cps.size) (hx : x.cps.size ≤ sizeLine) (res : Str) (hR : ∀ t' s', Keeps s s' → R (.ok (.ret (.str res t'))) s')
    (hrep : rep.cps.contains 92 = false) (hj : JoinOk e0 (subL nxt x.cps rep (x.cps.size + 1) 0) = true) (hz : (subL nxt x.cps rep (x.cps.size + 1) 0).length < sizeLine) (he : res = Txt.join e0 (subL nxt x.cps rep (x.cps.size + 1) 0)) :
    wpAny (model pg w) A.in1 (Builtin.«re.Pattern.sub» ⟨[.ref P, .str rep tr, .str x t], []⟩) (Fin' A w R) E s := by
  unfold Builtin.«re.Pattern.sub» reSubstitute
  dsimp only
  refine wpAny_bind (wpAny_of_eq (a := [some (.str rep tr), some (.str x t), none]) rfl ?_)
  dsimp only
  refine wpAny_bind (wpAny_pure ?_)
  refine wpAny_bind (wpAny_specialOf (typeIs_str _ _ _) no_call ?_)
  rw [if_neg (show ¬ (none : Option Value).isSome = true by decide)]
  refine wpAny_bind (wpAny_of_eq (a := some rep) rfl ?_)
  refine wpAny_bind (wpAny_pure ?_)
  rw [hrep, if_neg (show ¬ (none : Option Value).isSome = true by decide), if_pos (show (!false) = true from rfl)]
  refine wpAny_bind (wpAny_pure (wpAny_bind (wpAny_holding (wp_target hp ?_))))
  rw [if_neg (show ¬ ((((Value.str rep tr, 0) : Value × Int)).snd == 1) = true from (by decide : ¬ ((0 : Int) == 1) = true))]
  refine wpAny_bind (wpAny_newList ?_)
  refine wpAny_pure ⟨plainId_quiet pat_loop_plain _, codeAny_builtin pat_loop_entry ?_⟩
  rw [Around.under_plainId pat_loop_plain]
  have hl : (s.heap.push { cls := .type "list", data := .seq ([] : List Value).toArray }).get? s.heap.objs.size = some { cls := .type "list", data := .seq ([] : List Value).toArray } := Heap.get?_push_size _ rfl
  exact sub_loop (s0 := s) (R := R) hp (fresh_none (Nat.le_refl _)) hn hr hx res hR (x.cps.size + 1) 0 0 [] _ _ _ _ _ _ (by omega) (Nat.zero_le _) (Keeps.push (Keeps.rfl s) _) ⟨[], rfl, 0, hl⟩ hj hz he
theorem call_sub {P C : Addr} {code : List Int} {x rep : Str} {t tr : Tok} {nxt : Nat → Option (Nat × Nat)} {Q : Value → Shared → Prop} {E : Value → Shared → Prop} (hp : PatAt s.heap P C code)
    (hn : ∀ p, p ≤ x.cps.size → Nxt (code.map Int.toNat).toArray x.cps x.cps.size p (nxt p)) (hr : ∀ p s e, nxt p = some (s, e) → p ≤ s ∧ s < e ∧ e ≤ x.cps.size) (hx : x.cps.size ≤ sizeLine) (res : Str) (hQ : ∀ t' s', Keeps s s' → Q (.str res t') s')
    (hrep : rep.cps.contains 92 = false) (hj : JoinOk e0 (subL nxt x.cps rep (x.cps.size + 1) 0) = true) (hz : (subL nxt x.cps rep (x.cps.size + 1) 0).length < sizeLine) (he : res = Txt.join e0 (subL nxt x.cps rep (x.cps.size + 1) 0)) :
    wpAny (model pg w) A (call (.builtin "re.Pattern.sub") [.ref P, .str rep tr, .str x t]) Q E s := by
  obtain ⟨⟨q1, q2, hob⟩, _⟩ := id hp
  exact wpAny_call (codeAny_call_builtin pat_slot.plain pat_entry (pat_slot.check _ _ _ _ _ _ _ _ ⟨_, hob, rfl⟩ (pat_args _ _ _) (wp_sub (R := wants Q E) hp hn hr hx res hQ hrep hj hz he)))
theorem ee_pat {x : Str} {p apos pos : Pos} {P C : Addr} {code : List Int} {a b : Expr} {rep y res : Str} {nxt : Nat → Option (Nat × Nat)} (hf : EG w A ns (.Name x p) (.ref P)) (hP : ∀ h, GL w h → PatAt h P C code) (ha : EE w A ns σ a (S rep)) (hb : EE w A ns σ b (S y))
    (hn : ∀ p, p ≤ y.cps.size → Nxt (code.map Int.toNat).toArray y.cps y.cps.size p (nxt p)) (hr : ∀ p s e, nxt p = some (s, e) → p ≤ s ∧ s < e ∧ e ≤ y.cps.size) (hx : y.cps.size ≤ sizeLine)
    (hrep : rep.cps.contains 92 = false) (hj : JoinOk e0 (subL nxt y.cps rep (y.cps.size + 1) 0) = true) (hz : (subL nxt y.cps rep (y.cps.size + 1) 0).length < sizeLine) (he : res = Txt.join e0 (subL nxt y.cps rep (y.cps.size + 1) 0))
    (hbase : ∀ env, attributeBase (.Name x p) "sub" env (eval (.Name x p) env) = eval (.Name x p) env := by intro _; rfl) (hline : (apos.endLine == pos.line) = true := by decide)
    (hs : ∀ env, starEach [a, b] env = [a, b].map fun e => (false, eval e env) := by intro _; rfl) : EE w A ns σ (.Call (.Attribute (.Name x p) "sub" apos) [a, b] [] pos) (S res) := .mk <| fun env M g he' hv s u cx => by
  refine wpAny_Call_method_late (hbase env) ?_ hline (trees := [a, b].map fun e => (false, eval e env)) (by rw [hs, backTo_plain]) ((hf.run env M g he').use u cx fun ov s1 k1 c1 p1 => ?_)
  · rw [hs, backTo_plain]; rfl
  · subst p1
    have hp1 := hP _ c1.G
    have hp1' := hp1
    obtain ⟨⟨q1, q2, hob⟩, _⟩ := hp1'
    refine ⟨"re.Pattern", _, pat_attrs, pat_slot, pat_type, ⟨_, hob, rfl⟩, (fun a' e' => by cases e'; exact ⟨_, hob, rfl⟩), Calls.callWith_builtin (any_plain (es := [a, b]) (env := env)) (Calls.evalArgs_plain (((EEs.run (.cons ha (.cons hb .nil)) he' hv).up (u.trans (Keeps.upto k1))).use (Up.refl _) c1 fun vs s2 k2 c2 p2 => ?_))⟩
    obtain ⟨v1, v2, rfl, h1, h2⟩ := all2 p2
    obtain ⟨t1, rfl⟩ := unS h1
    obtain ⟨t2, rfl⟩ := unS h2
    exact call_sub (s := s2) (hp1.up (Keeps.upto k2)) hn hr hx res (fun t' s' k => ⟨Keeps.tr (Keeps.tr k1 k2) k, isD_str⟩) hrep hj hz he
end
end Mine
-- G6
namespace Mine
-- what sub gives, on lists of codes
noncomputable def normA : Bool → List Nat → List Nat
  | _, [] => []
  | b, c :: r => if c = 10 then (if b = true then normA false r else 13 :: 10 :: normA false r) else if c = 13 then 13 :: 10 :: normA true r else c :: normA false r
noncomputable def quoteA : Bool → List Nat → List Nat
  | _, [] => []
  | b, c :: r => (if (b && c == 46) = true then [46, 46] else [c]) ++ quoteA (c == 10) r
noncomputable def flat (xs : List Str) : List Nat := (xs.map fun x => x.cps.toList).flatten
theorem flat_nil : flat [] = [] := rfl
theorem flat_cons (x : Str) (xs : List Str) : flat (x :: xs) = x.cps.toList ++ flat xs := by simp [flat]
theorem flat_append (xs ys : List Str) : flat (xs ++ ys) = flat xs ++ flat ys := by simp [flat]
theorem join_flat (xs : List Str) : Txt.join e0 xs = ⟨(flat xs).toArray⟩ := by
  have key : ∀ (ys : List Str) (acc : Array Nat), (ys.foldl (fun acc p => acc ++ e0.cps ++ p.cps) acc).toList = acc.toList ++ flat ys := by
    intro ys
    induction ys with
    | nil => intro acc; simp [flat]
    | cons y ys ih =>
      intro acc
      rw [List.foldl_cons, ih, flat_cons]
      have : e0.cps = #[] := by decide +kernel
      simp [this]
  apply congrArg Str.mk
  apply Array.toList_inj.mp
  show ((xs.drop 1).foldl (fun acc p => acc ++ e0.cps ++ p.cps) (xs.headD Str.empty).cps).toList = _
  rw [key]
  cases xs with
  | nil => rfl
  | cons x xs => simp [flat_cons]
theorem joinOk_flat (xs : List Str) (h : (flat xs).length ≤ sizeLine) : JoinOk e0 xs = true := by
  have key : ∀ (ys : List Str) (n : Nat), (ys.foldl (fun (n : Nat) (p : Str) => n + p.length + e0.length) n) = n + (flat ys).length := by
    intro ys
    induction ys with
    | nil => intro n; rfl
    | cons y ys ih =>
      intro n
      rw [List.foldl_cons, ih, flat_cons]
      have : e0.length = 0 := by decide +kernel
      rw [this, List.length_append]
      have : y.length = y.cps.toList.length := by simp [Str.length]
      omega
  have e : xs.toArray.foldl (fun (n : Nat) (p : Str) => n + p.length + e0.length) 0 = (flat xs).length := by
    rw [List.foldl_toArray', key, Nat.zero_add]
    rfl
  unfold JoinOk
  show (!Builtin.Str.tooLong (xs.toArray.foldl (fun (n : Nat) (p : Str) => n + p.length + e0.length) 0)) = true
  rw [e]
  unfold Builtin.Str.tooLong
  simp; omega
section
variable {text : Array Nat}
noncomputable def nxt2 (text : Array Nat) (p : Nat) : Option (Nat × Nat) := (nl text text.size (text.size + 1 - p) p).map fun s => (s, end2 text text.size s)
noncomputable def nxt1 (text : Array Nat) (p : Nat) : Option (Nat × Nat) := (dot text text.size (text.size + 1 - p) p).map fun s => (s, s + 1)
theorem nl_plain : ∀ {f s : Nat} {lim : Nat}, lim < s + f → ∀ i, s ≤ i → i < (nl text lim f s).getD lim → text.getD i 0 ≠ 10 ∧ text.getD i 0 ≠ 13
  | 0, s, lim, hf, i, h1, h2 => by
    unfold nl at h2; simp at h2; omega
  | f + 1, s, lim, hf, i, h1, h2 => by
    unfold nl at h2
    by_cases h0 : s ≥ lim
    · rw [if_pos h0] at h2; simp at h2; omega
    · rw [if_neg h0] at h2
      by_cases h3 : (text.getD s 0 == 10 || text.getD s 0 == 13) = true
      · rw [if_pos h3] at h2; simp at h2; omega
      · rw [if_neg h3] at h2
        by_cases hi : i = s
        · subst hi; simpa using h3
        · exact nl_plain (by omega) i (by omega) h2
theorem dot_plain : ∀ {f s : Nat} {lim : Nat}, lim < s + f → ∀ i, s ≤ i → i < (dot text lim f s).getD lim → (bol text i && text.getD i 0 == 46) = false
  | 0, s, lim, hf, i, h1, h2 => by
    unfold dot at h2; simp at h2; omega
  | f + 1, s, lim, hf, i, h1, h2 => by
    unfold dot at h2
    by_cases h0 : s ≥ lim
    · rw [if_pos h0] at h2; simp at h2; omega
    · rw [if_neg h0] at h2
      by_cases h3 : (bol text s && text.getD s 0 == 46) = true
      · rw [if_pos h3] at h2; simp at h2; omega
      · rw [if_neg h3] at h2
        by_cases hi : i = s
        · subst hi; simpa using h3
        · exact dot_plain (by omega) i (by omega) h2
theorem dot_some : ∀ {f s r lim : Nat}, dot text lim f s = some r → s ≤ r ∧ r < lim ∧ bol text r = true ∧ text.getD r 0 = 46
  | 0, s, r, lim, h => by cases h
  | f + 1, s, r, lim, h => by
    unfold dot at h
    by_cases h0 : s ≥ lim
    · rw [if_pos h0] at h; cases h
    · rw [if_neg h0] at h
      by_cases h2 : (bol text s && text.getD s 0 == 46) = true
      · rw [if_pos h2] at h; cases h
        exact ⟨Nat.le_refl _, by omega, by simpa using h2⟩
      · rw [if_neg h2] at h
        obtain ⟨a, c⟩ := dot_some h
        exact ⟨by omega, c⟩
theorem drop_at {p : Nat} (h : p < text.size) : text.toList.drop p = text.getD p 0 :: text.toList.drop (p + 1) := by
  rw [List.drop_eq_getElem_cons (by simpa using h)]
  simp [Array.getD, h]
theorem ext_list (p s : Nat) : (text.extract p s).toList = (text.toList.drop p).take (s - p) := by
  simp [Array.toList_extract, List.extract_eq_take_drop]
theorem norm_seg : ∀ (k p : Nat), p + k ≤ text.size → (∀ i, p ≤ i → i < p + k → text.getD i 0 ≠ 10 ∧ text.getD i 0 ≠ 13) → normA false (text.toList.drop p) = (text.toList.drop p).take k ++ normA false (text.toList.drop (p + k))
  | 0, p, h, hp => by simp
  | k + 1, p, h, hp => by
    obtain ⟨a, b⟩ := hp p (Nat.le_refl _) (by omega)
    rw [drop_at (by omega), normA, if_neg a, if_neg b, List.take_succ_cons, norm_seg k (p + 1) (by omega) (fun i h1 h2 => hp i (by omega) (by omega)), show p + 1 + k = p + (k + 1) by omega]
    rfl
theorem quote_seg : ∀ (k p : Nat), p + k ≤ text.size → (∀ i, p ≤ i → i < p + k → (bol text i && text.getD i 0 == 46) = false) → quoteA (bol text p) (text.toList.drop p) = (text.toList.drop p).take k ++ quoteA (bol text (p + k)) (text.toList.drop (p + k))
  | 0, p, h, hp => by simp
  | k + 1, p, h, hp => by
    have a := hp p (Nat.le_refl _) (by omega)
    have e : (text.getD p 0 == 10) = bol text (p + 1) := by simp [bol]
    rw [drop_at (by omega), quoteA, if_neg (by rw [a]; decide), List.take_succ_cons, e, quote_seg k (p + 1) (by omega) (fun i h1 h2 => hp i (by omega) (by omega)), show p + 1 + k = p + (k + 1) by omega]
    rfl
theorem end2_le {lim s : Nat} (h : s < lim) : s < end2 text lim s ∧ end2 text lim s ≤ lim := by
  by_cases q : text.getD s 0 = 13 ∧ s + 1 < lim ∧ text.getD (s + 1) 0 = 10
  · rw [end2, if_pos q]; omega
  · rw [end2, if_neg q]; omega
theorem end2_lf {lim s : Nat} (h : text.getD s 0 = 10) : end2 text lim s = s + 1 := by
  rw [end2, if_neg (by rw [h]; rintro ⟨q, _⟩; cases q)]
theorem end2_crlf {lim s : Nat} (h : text.getD s 0 = 13) (h4 : s + 1 < lim ∧ text.getD (s + 1) 0 = 10) : end2 text lim s = s + 2 := by
  rw [end2, if_pos ⟨h, h4⟩]
theorem end2_cr {lim s : Nat} (h4 : ¬ (s + 1 < lim ∧ text.getD (s + 1) 0 = 10)) : end2 text lim s = s + 1 := by
  rw [end2, if_neg (fun q => h4 q.2)]
theorem nxt2_ok (p s e : Nat) (h : nxt2 text p = some (s, e)) : p ≤ s ∧ s < e ∧ e ≤ text.size := by
  unfold nxt2 at h
  cases hn : nl text text.size (text.size + 1 - p) p with
  | none => rw [hn] at h; cases h
  | some s' =>
    rw [hn] at h
    obtain ⟨rfl, rfl⟩ := Prod.mk.inj (Option.some.inj h)
    obtain ⟨a, b, _⟩ := nl_some hn
    exact ⟨a, end2_le b⟩
theorem nxt1_ok (p s e : Nat) (h : nxt1 text p = some (s, e)) : p ≤ s ∧ s < e ∧ e ≤ text.size := by
  unfold nxt1 at h
  cases hn : dot text text.size (text.size + 1 - p) p with
  | none => rw [hn] at h; cases h
  | some s' =>
    rw [hn] at h
    obtain ⟨rfl, rfl⟩ := Prod.mk.inj (Option.some.inj h)
    obtain ⟨a, b, _⟩ := dot_some hn
    omega
noncomputable def crlfS : Str := Str.ofString "\x0d\n"
noncomputable def dd : Str := Str.ofString ".."
theorem crlf_list : crlfS.cps.toList = [13, 10] := by decide +kernel
theorem dd_list : dd.cps.toList = [46, 46] := by decide +kernel
theorem piece_flat (p s : Nat) (h : p ≤ s) : flat (if p < s then [⟨text.extract p s⟩] else []) = (text.toList.drop p).take (s - p) := by
  by_cases hp : p < s
  · rw [if_pos hp, flat_cons, flat_nil, List.append_nil]
    exact ext_list p s
  · rw [if_neg hp, flat_nil, show s - p = 0 by omega, List.take_zero]
theorem sub2_flat : ∀ (f p : Nat), text.size < p + f → p ≤ text.size → flat (subL (nxt2 text) text crlfS f p) = normA false (text.toList.drop p)
  | 0, p, h1, h2 => by omega
  | f + 1, p, h1, h2 => by
    rw [subL]
    have hpl := nl_plain (text := text) (f := text.size + 1 - p) (s := p) (lim := text.size) (by omega)
    cases hn : nl text text.size (text.size + 1 - p) p with
    | none =>
      rw [hn] at hpl
      have : nxt2 text p = none := by unfold nxt2; rw [hn]; rfl
      rw [this]
      dsimp only
      rw [piece_flat p text.size h2, norm_seg (text.size - p) p (by omega) (fun i a b => hpl i a (by simp; omega)), show p + (text.size - p) = text.size by omega]
      have : text.toList.drop text.size = [] := by simp
      rw [this]
      simp [normA]
    | some s =>
      rw [hn] at hpl
      have hx : nxt2 text p = some (s, end2 text text.size s) := by unfold nxt2; rw [hn]; rfl
      rw [hx]
      obtain ⟨a, b, c⟩ := nl_some hn
      obtain ⟨_, d, e⟩ := nxt2_ok _ _ _ hx
      dsimp only
      rw [flat_append, flat_cons, piece_flat p s a, crlf_list, sub2_flat f _ (by omega) e, norm_seg (s - p) p (by omega) (fun i a b => hpl i a (by simp; omega)), show p + (s - p) = s by omega]
      congr 1
      rw [drop_at b]
      rcases c with c | c
      · rw [end2_lf c, c, normA, if_pos rfl, if_neg (by decide)]
        rfl
      · rw [c, normA, if_neg (by decide), if_pos rfl]
        by_cases h4 : s + 1 < text.size ∧ text.getD (s + 1) 0 = 10
        · rw [end2_crlf c h4, drop_at h4.1, h4.2, normA, if_pos rfl, if_pos rfl]
          rfl
        · rw [end2_cr h4]
          by_cases h5 : s + 1 < text.size
          · have h6 : text.getD (s + 1) 0 ≠ 10 := fun q => h4 ⟨h5, q⟩
            rw [drop_at h5, normA, normA, if_neg h6, if_neg h6]
            rfl
          · have : text.toList.drop (s + 1) = [] := by simp; omega
            rw [this]
            rfl
theorem sub1_flat : ∀ (f p : Nat), text.size < p + f → p ≤ text.size → flat (subL (nxt1 text) text dd f p) = quoteA (bol text p) (text.toList.drop p)
  | 0, p, h1, h2 => by omega
  | f + 1, p, h1, h2 => by
    rw [subL]
    have hpl := dot_plain (text := text) (f := text.size + 1 - p) (s := p) (lim := text.size) (by omega)
    cases hn : dot text text.size (text.size + 1 - p) p with
    | none =>
      rw [hn] at hpl
      have : nxt1 text p = none := by unfold nxt1; rw [hn]; rfl
      rw [this]
      dsimp only
      rw [piece_flat p text.size h2, quote_seg (text.size - p) p (by omega) (fun i a b => hpl i a (by simp; omega)), show p + (text.size - p) = text.size by omega]
      have : text.toList.drop text.size = [] := by simp
      rw [this]
      simp [quoteA]
    | some s =>
      rw [hn] at hpl
      have hx : nxt1 text p = some (s, s + 1) := by unfold nxt1; rw [hn]; rfl
      rw [hx]
      obtain ⟨a, b, c, c2⟩ := dot_some hn
      dsimp only
      rw [flat_append, flat_cons, piece_flat p s a, dd_list, sub1_flat f _ (by omega) (by omega), quote_seg (s - p) p (by omega) (fun i a b => hpl i a (by simp; omega)), show p + (s - p) = s by omega]
      congr 1
      have e : bol text (s + 1) = false := by
        show (s + 1 == 0 || text.getD s 0 == 10) = false
        rw [c2]; rfl
      rw [drop_at b, quoteA, c, c2, e]
      rfl
theorem subL_len {nxt : Nat → Option (Nat × Nat)} {rep : Str} (hr : ∀ p s e, nxt p = some (s, e) → p ≤ s ∧ s < e ∧ e ≤ text.size) : ∀ (f p : Nat), p ≤ text.size → (subL nxt text rep f p).length ≤ 2 * (text.size - p) + 1
  | 0, p, h => by simp [subL]
  | f + 1, p, h => by
    rw [subL]
    cases hn : nxt p with
    | none => dsimp only; split <;> simp
    | some q =>
      obtain ⟨s, e⟩ := q
      obtain ⟨a, b, c⟩ := hr _ _ _ hn
      have := subL_len (rep := rep) hr f e c
      dsimp only
      rw [List.length_append, List.length_cons]
      have : (if p < s then [(⟨text.extract p s⟩ : Str)] else []).length ≤ 1 := by split <;> simp
      omega
theorem norm_len : ∀ (b : Bool) (l : List Nat), (normA b l).length ≤ 2 * l.length
  | _, [] => Nat.le_refl _
  | b, c :: r => by
    have h1 := norm_len false r
    have h2 := norm_len true r
    rw [normA]
    split
    · split <;> simp <;> omega
    · split <;> simp <;> omega
theorem quote_len : ∀ (b : Bool) (l : List Nat), (quoteA b l).length ≤ 2 * l.length
  | _, [] => Nat.le_refl _
  | b, c :: r => by
    have h1 := quote_len (c == 10) r
    rw [quoteA, List.length_append]
    split <;> simp <;> omega
end
noncomputable def quoted (x : Str) : Str := ⟨(quoteA true (normA false x.cps.toList)).toArray⟩
theorem quotedata {w : World} {A : Around} {n : Nat} (hA : Dp (n + 1) A) (x : Str) (hx : x.length ≤ 1000000) : CALL w A (.ref 79) [S x] (S (quoted x)) := by
  refine call_def (x := Str.ofString "quotedata") (k := 63) (a := 79) (ps := [Str.ofString "data"]) (n := n) (by decide +kernel) hA (fun pm cd doc vs hl => ?_) (by decide) rfl (by decide +kernel) (by decide +kernel) (fun A' hA' => ?_) rfl rfl rfl
  · obtain ⟨v, rfl⟩ := List.length_eq_one_iff.mp hl
    rfl
  have hsl : sizeLine = 16777216 := rfl
  have hxs : x.cps.size ≤ 1000000 := hx
  let y : Str := ⟨(normA false x.cps.toList).toArray⟩
  have hy : y.cps.size ≤ 2000000 := by
    have := norm_len false x.cps.toList
    show (normA false x.cps.toList).toArray.size ≤ _
    simp at this ⊢; omega
  have f2 : flat (subL (nxt2 x.cps) x.cps crlfS (x.cps.size + 1) 0) = normA false x.cps.toList := sub2_flat (text := x.cps) (x.cps.size + 1) 0 (by omega) (Nat.zero_le _)
  have f1 : flat (subL (nxt1 y.cps) y.cps dd (y.cps.size + 1) 0) = quoteA true y.cps.toList := sub1_flat (text := y.cps) (y.cps.size + 1) 0 (by omega) (Nat.zero_le _)
  refine sx_ret (se_return (ee_pat (code := code1) (rep := dd) (y := y) (nxt := nxt1 y.cps) (eg_name (by decide +kernel) (fun h G => G.re1.1)) (fun h G => ⟨let ⟨p, f, e⟩ := G.re1.2.2; ⟨p, f, e⟩, G.re1.2.1⟩) ee_str
    (ee_pat (code := code2) (rep := crlfS) (y := x) (res := y) (nxt := nxt2 x.cps) (eg_name (by decide +kernel) (fun h G => G.re2.1)) (fun h G => ⟨let ⟨p, f, e⟩ := G.re2.2.2; ⟨p, f, e⟩, G.re2.2.1⟩) (ee_glob (by decide +kernel) fun h M G _ => let ⟨t, e⟩ := G.cr; ⟨_, e, isD_str⟩) (ee_name rfl)
      (fun p hp => search2 p) nxt2_ok (by omega) (by decide +kernel) (joinOk_flat _ (by rw [f2]; have := norm_len false x.cps.toList; simp at this; omega)) ?_ ?_)
    (fun p hp => search1' p (by omega)) nxt1_ok (by omega) (by decide +kernel) (joinOk_flat _ (by rw [f1]; have := quote_len true y.cps.toList; simp at this; omega)) ?_ ?_))
  · have := subL_len (text := x.cps) (rep := crlfS) nxt2_ok (x.cps.size + 1) 0 (Nat.zero_le _)
    omega
  · rw [join_flat, f2]
  · have := subL_len (text := y.cps) (rep := dd) nxt1_ok (y.cps.size + 1) 0 (Nat.zero_le _)
    omega
  · rw [join_flat, f1]
    rfl
end Mine
-- G7
namespace Mine
section
variable {w : World} {A : Around} {ns : List (Str × NameKind)} {σ : Sg} {M : List Addr} {g : Heap} {env : Env}
/-- one step of a comprehension's loop: the item drawn and bound -/
theorem comp_step2 {s s2 s4 s' : Shared} {J a : Addr} {fp wr oc : List Addr} {P : Nat → Value → Prop} {St : Nat → Heap → Prop} {ds : List D} {σ' β : Sg} {target : Expr} {cenv : Env} {names : List (Str × NameKind)} {i : Nat} {d : D}
    {K : Shared → Prop} (W : Wk w A M s s2 J fp wr P St ds) (h24 : Up s2.heap s4.heap) (hfp : ∀ t ∈ a :: cenv.locals :: oc, t ∉ fp) (hbf' : ∀ b o, s2.heap.get? b = some o → Kept o → b ∉ M → b ∉ a :: cenv.locals :: oc) (hk : cenv.scope.kind = .function)
    (hsto : ∀ x, (x, NameKind.local) ∈ names ∨ (x, NameKind.cell) ∈ names → Sto cenv oc x) (hdis : ∀ q ∈ σ', q.1 ∉ β.map (·.1)) (hcw : ∀ x c, cenv.cells.lookup x = some c → c ∉ wr)
    (C : CI w A M s4 a cenv oc wr St σ' i s') (hi : i < ds.length) (hd : ds[i]? = some d) (ht : TgtS names target d β)
    (h : ∀ s6, CI w A M s4 a cenv oc wr St σ' (i + 1) s6 → (∃ m, FRM cenv oc m s6.heap ∧ Bnd w (a :: cenv.locals :: wr ++ M) m s6.heap (β ++ σ')) → Stays (a :: cenv.locals :: wr ++ M) (a :: cenv.locals :: wr ++ M) s'.heap s6.heap →
      Chg (cenv.locals :: oc ++ wr) s' s6 → K s6) :
    wpAny (model pg w) A (pyNext (.ref J)) (fun r s₁ => match r with
      | none => False
      | some v => wpAny (model pg w) A (letOwnedTupleGo target (.ref J) v) (fun _ s₁' => wpAny (model pg w) A (assign target cenv v) (fun _ s₂ => K s₂) (fun _ _ => False) s₁') (fun _ _ => False) s₁) (fun _ _ => False) s' := by
  obtain ⟨m, F, Bσ⟩ := C.fr
  have hwn : ∀ t ∈ wr, t ∉ a :: cenv.locals :: oc := fun t ht q => hfp t q (W.W.sub t ht)
  refine wpAny_mono (wpAny_toks (Q := fun r s5 => ∃ v, r = some v ∧ P i v ∧ St (i + 1) s5.heap ∧ Chg wr s' s5) (E := fun _ _ => False) (W.W.item i s' _ _ hi C.st fun v h' tk hp hst hch => ⟨v, rfl, hp, hst, h', tk, rfl, hch⟩)) (fun r s5 q => ?_) fun _ _ q => q.2.elim
  obtain ⟨tk5, v, rfl, hp, hst5, ch5⟩ := q
  show wpAny _ _ _ _ _ _
  -- the drawn state
  have cx5 : CX w A (a :: cenv.locals :: wr ++ M) s5 := C.cx.chg ch5 (fun t ht => ⟨(W.wn t ht).2.2, fun _ => let ⟨o, e, _⟩ := W.sw (i + 1) _ hst5 t ht; ⟨o, e⟩⟩) tk5
  have F5 : FRM cenv oc m s5.heap := F.chg ch5.h (fun q => hwn _ q (by simp)) hcw
  have st5 : Stays (a :: cenv.locals :: wr ++ M) (a :: cenv.locals :: wr ++ M) s'.heap s5.heap := ch5.h.stays fun t ht => .inl (by simp [ht])
  -- the item, there
  obtain ⟨d', hd', hv⟩ := W.vals i v hi hp
  rw [hd] at hd'; cases hd'
  have hv5 : IsD pg w (a :: cenv.locals :: wr ++ M) s5.heap d v := hv.stays fun b o hb hkp e => by
    have hbw : b ∉ wr := fun q => by
      obtain ⟨o', e', hn⟩ := W.sw 0 _ W.st b q
      rw [e] at e'; cases e'; exact hn hkp
    have hbf : b ∉ a :: cenv.locals :: oc := hbf' b o e hkp hb
    refine ⟨ch5.h b o hbw (C.ch.h b o (fun q => ?_) (h24 b o e)), fun q => ?_⟩
    · rcases List.mem_append.mp q with q | q
      · exact hbf q
      · exact hbw q
    · simp only [List.cons_append, List.mem_cons, List.mem_append] at q
      rcases q with rfl | rfl | q | q
      · exact hbf (by simp)
      · exact hbf (by simp)
      · exact hbw q
      · exact hb q
  have fin : ∀ (Q : Unit → Shared → Prop), (∀ s6, K s6 → Q () s6) → wpAny (model pg w) A (assign target cenv v) Q (fun _ _ => False) s5 := fun Q hQ => by
    refine wp_assign (ht.to hsto) F5 hk (by simp) cx5 hv5 fun s6 m6 F6 ch6 cx6 hm6 hb6 => hQ s6 (h s6 ⟨?_, cx6, ?_, m6, F6, ?_⟩ ⟨m6, F6, ?_⟩ ?_ ?_)
    · refine (C.ch.tr ch5 fun t ht => .inl (by simp [ht])).tr ch6 fun t ht => .inl ?_
      simp only [List.mem_cons, List.cons_append, List.mem_append] at ht ⊢
      rcases ht with ht | ht <;> simp [ht]
    · refine W.W.frame _ _ _ hst5 fun b hb o e => ch6.h b o (fun q => ?_) e
      exact hfp b (List.mem_cons_of_mem _ q) hb
    · intro q hq
      obtain ⟨v', e1, e2⟩ := Bσ q hq
      exact ⟨v', by rw [hm6 _ (fun hx => hdis q hq hx)]; exact e1, (e2.stays st5).stays (F5.stays ch6.h (by simp))⟩
    · intro q hq
      rcases List.mem_append.mp hq with hq | hq
      · exact hb6 q hq
      · obtain ⟨v', e1, e2⟩ := Bσ q hq
        exact ⟨v', by rw [hm6 _ (fun hx => hdis q hq hx)]; exact e1, (e2.stays st5).stays (F5.stays ch6.h (by simp))⟩
    · intro b o hb hkp e
      obtain ⟨e1, _⟩ := st5 b o hb hkp e
      exact F5.stays ch6.h (by simp) b o hb hkp e1
    · refine (ch5.mono fun t ht => .inl (by simp [ht])).tr ch6 fun t ht => .inl ?_
      simp only [List.mem_cons, List.cons_append, List.mem_append] at ht ⊢
      rcases ht with ht | ht <;> simp [ht]
  cases ht with
  | name _ => exact wpAny_of_eq (a := ()) rfl (fin _ fun _ h => h)
  | pair _ _ _ => exact W.own i v _ _ _ s5 _ _ hp hst5 (fin _ fun _ h => h)
  | three _ _ _ _ _ _ => exact W.own i v _ _ _ s5 _ _ hp hst5 (fin _ fun _ h => h)

/-- the whole of a comprehension's block, from the iterator on; Acc: what the accumulator holds behind i items -/
theorem comp_core2 {s s2 : Shared} {J : Addr} {fp wr : List Addr} {P : Nat → Value → Prop} {St : Nat → Heap → Prop} {e target : Expr} {ifs : List Expr} {scope : Scope} {ds : List D} {accO : Obj} {newAcc : Sem Value} (emit : Addr → Env → Sem Unit) (Acc : Addr → List Addr → Nat → Heap → Prop) (β : D → Sg) (p : D → Bool) (σ' : Sg) {RR : Value → Addr → Result → Shared → Prop} {E : Value → Shared → Prop}
    (he : EnvOk env ns) (hv : VarsOk w M g env σ) (u : Up g s.heap) (k2 : Keeps s s2) (c2 : CX w A M s2) (W : Wk w A M s s2 J fp wr P St ds)
    (hsk : scope.kind = .function) (hc : compOk ns scope.names (σ.map (·.1)) = true)
    (hσ : ∀ q ∈ σ', (q.1, NameKind.free) ∈ scope.names ∧ σ.lookup q.1 = some q.2)
    (ht : ∀ d ∈ ds, TgtS scope.names target d (β d))
    (hif : ∀ d ∈ ds, TTs w A (rel ns scope.names) (β d ++ σ') ifs (p d))
    (hnew : ∀ (s : Shared) (Q : Value → Shared → Prop) (E : Value → Shared → Prop), Q (.ref s.heap.objs.size) { s with heap := s.heap.push accO } → wpAny (model pg w) A newAcc Q E s) (hfo : accO.isFreed = false)
    (hacc0 : ∀ a M' h, h.get? a = some accO → Acc a M' 0 h)
    (hacc : ∀ a M' i h h', a ∈ M' → Acc a M' i h → Stays M' M' h h' → (∀ o, h.get? a = some o → h'.get? a = some o) → Acc a M' i h')
    (hskip : ∀ a M' i d h, ds[i]? = some d → p d = false → Acc a M' i h → Acc a M' (i + 1) h)
    (hemit : ∀ a oc M' i d cenv s, ds[i]? = some d → p d = true → EnvOk cenv (rel ns scope.names) → (∀ x, (x, NameKind.local) ∈ scope.names ∨ (x, NameKind.cell) ∈ scope.names → Sto cenv oc x) → a ∈ M' → cenv.locals ∈ M' → (∀ t ∈ a :: cenv.locals :: oc, 106 < t) → a ∉ cenv.locals :: oc →
      (∀ x c, cenv.cells.lookup x = some c → c ≠ a ∧ ∃ o, s.heap.get? c = some o) → (∃ m, FRM cenv oc m s.heap ∧ Bnd w M' m s.heap (β d ++ σ')) → (∀ q ∈ β d ++ σ', cenv.kindOf q.1 = some .local ∨ cenv.kindOf q.1 = some .cell ∨ cenv.kindOf q.1 = some .free) → CX w A M' s → Acc a M' i s.heap →
      wpAny (model pg w) A (emit a cenv) (fun _ s' => Chg (a :: cenv.locals :: oc) s s' ∧ CX w A M' s' ∧ (∃ m, FRM cenv oc m s'.heap ∧ Bnd w M' m s'.heap σ') ∧ Acc a M' (i + 1) s'.heap) (fun _ _ => False) s)
    (hloop : ∀ a cenv (R : Result → Shared → Prop) (I : Nat → Shared → Prop) n s, Turn w A R target ifs (emit a cenv) (.ref J) cenv I → I n s → codeAny (model pg w) A (.compLoop e 0 (.ref J) (.ref a) cenv) R s)
    (hstart : ∀ a cenv (R : Result → Shared → Prop) s, codeAny (model pg w) A (.compLoop e 0 (.ref J) (.ref a) cenv) R s → wpAny (model pg w) A (pyIter (.ref J)) (fun it' s' => codeAny (model pg w) A (.compLoop e 0 it' (.ref a) cenv) R s') (notedBy (model pg w) A cenv fun x s' => R (.error x) s') s →
      codeAny (model pg w) A (.compStart e 0 (.ref J) (.ref a) cenv) R s)
    (hRR : ∀ a C s', Keeps s s' → CX w A (C :: M) s' → s.heap.get? C = none → C ∉ M → (∃ M', a ∈ M' ∧ (∀ t ∈ C :: M, t ∈ M') ∧ Acc a M' ds.length s'.heap) → a ∉ C :: M → 106 < a → (∃ m, s'.heap.Ns C m) → RR (.ref a) C (.ok .next) s') :
    wpAny (model pg w) A newAcc (fun acc s₃ => wpAny (model pg w) A (newFunctionEnv scope env.globals (clos env.cells scope.names []) [] env.qual none .none (some env)) (fun cenv s₄ =>
      codeAny (model pg w) A (.compStart e 0 (.ref J) acc { cenv with scope := relabel scope env }) (RR acc cenv.locals) s₄) E s₃) E s2 := by
  refine hnew _ _ _ (wp_compEnv ?_)
  generalize hs3 : ({ s2 with heap := s2.heap.push accO } : Shared) = s3
  have k3 : Keeps s2 s3 := hs3 ▸ Keeps.push (Keeps.rfl s2) _
  have c3 : CX w A M s3 := c2.up (Keeps.upto k3) (by rw [← hs3]; exact Nat.le_refl _)
  have hsz : s3.heap.objs.size = s2.heap.objs.size + 1 := by rw [← hs3]; exact Heap.size_push ..
  obtain ⟨oc, m, Fr⟩ := comp_frame (σ := σ) he hv ((u.trans (Keeps.upto k2)).trans (Keeps.upto k3)) c3 hsk hc
  generalize hs4 : ({ s3 with heap := pushCells (s3.heap.push { cls := .type "dict", data := .dict #[] }) scope.names } : Shared) = s4
  have hh4 : pushCells (s3.heap.push { cls := .type "dict", data := .dict #[] }) scope.names = s4.heap := by rw [← hs4]
  rw [hh4] at Fr
  have hloc : (cenvOf scope env s3.heap.objs.size).locals = s3.heap.objs.size := rfl
  show codeAny _ _ (.compStart e 0 (.ref J) (.ref s2.heap.objs.size) (cenvOf scope env s3.heap.objs.size)) (RR (.ref s2.heap.objs.size) (cenvOf scope env s3.heap.objs.size).locals) s4
  generalize hcv : cenvOf scope env s3.heap.objs.size = cenv at Fr hloc
  have k4 : Keeps s3 s4 := ⟨s4.heap, s4.toks, by rw [← hs4], Fr.up⟩
  have tk4 : s3.toks ≤ s4.toks := by rw [← hs4]; exact Nat.le_refl _
  have c4 : CX w A M s4 := c3.up (Keeps.upto k4) tk4
  generalize ha : s2.heap.objs.size = a at hsz
  have ha2 : s2.heap.get? a = none := fresh_none (by rw [ha]; exact Nat.le_refl _)
  have hpl3 : s3.heap.get? a = some accO := by rw [← hs3, ← ha]; exact Heap.get?_push_size _ hfo
  have hpl4 : s4.heap.get? a = some accO := Keeps.upto k4 _ _ hpl3
  have ha3 : ∃ o, s3.heap.get? a = some o := ⟨_, hpl3⟩
  have hfr : ∀ t ∈ a :: cenv.locals :: oc, s2.heap.get? t = none ∧ 106 < t ∧ t ∉ M := fun t ht => by
    rcases List.mem_cons.mp ht with rfl | ht
    · exact ⟨ha2, ha ▸ c2.G.size, c2.new (by rw [ha]; exact Nat.le_refl _)⟩
    · obtain ⟨h1, h2, h3⟩ := Fr.fr t ht
      exact ⟨none_down (Keeps.upto k3) h1, h2, h3⟩
  have hane : ∀ t ∈ cenv.locals :: oc, t ≠ a := fun t ht e => by
    subst e
    obtain ⟨o, e⟩ := ha3
    rw [(Fr.fr _ ht).1] at e; cases e
  have hawr : a ∉ wr := fun q => by
    obtain ⟨o, e⟩ := W.fl a (W.W.sub a q)
    rw [ha2] at e; cases e
  have hnd : (scope.names.map (·.1)).Nodup := by
    unfold compOk at hc
    rw [Bool.and_eq_true] at hc
    exact of_decide_eq_true hc.1
  have hdis : ∀ q ∈ σ', ¬ ((q.1, NameKind.local) ∈ scope.names ∨ (q.1, NameKind.cell) ∈ scope.names) := fun q hq h => by
    have h1 := (hσ q hq).1
    rcases h with h | h <;> have := key_unique hnd h1 h <;> cases this
  have hcw : ∀ x c, cenv.cells.lookup x = some c → c ∉ wr := fun x c e q => by
    rcases Fr.cel x c e with h | ⟨o, h⟩
    · obtain ⟨o, e'⟩ := W.fl c (W.W.sub c q)
      rw [(hfr c (by simp [h])).1] at e'; cases e'
    · have := u _ _ h
      rw [(W.wn c q).1] at this; cases this
  have st4 : St 0 s4.heap := W.W.frame _ _ _ W.st fun b _ o e => Keeps.upto k4 _ _ (Keeps.upto k3 _ _ e)
  have c4' : CX w A (a :: cenv.locals :: wr ++ M) s4 := ⟨c4.hh, c4.dp, c4.un, fun b hb => by
    simp only [List.cons_append, List.mem_cons, List.mem_append] at hb
    rcases hb with rfl | rfl | hb | hb
    · exact ⟨(hfr _ (by simp)).2.1, ⟨_, hpl4⟩⟩
    · exact ⟨(hfr _ (by simp)).2.1, Fr.F.live _ (by simp)⟩
    · obtain ⟨o, e, _⟩ := W.sw 0 _ st4 b hb
      exact ⟨(W.wn b hb).2.2, o, e⟩
    · exact c4.live b hb, c4.base, c4.tk⟩
  have hB4 : Bnd w (a :: cenv.locals :: wr ++ M) m s4.heap σ' := fun q hq => by
    obtain ⟨h1, h2⟩ := hσ q hq
    obtain ⟨v, h3, h4⟩ := Fr.vars q.1 q.2 h1 h2
    refine ⟨v, h3, h4.stays fun b o hb _ e => ⟨Keeps.upto k4 _ _ (Keeps.upto k3 _ _ (Keeps.upto k2 _ _ (u _ _ e))), fun q => ?_⟩⟩
    simp only [List.cons_append, List.mem_cons, List.mem_append] at q
    have hs2 := Keeps.upto k2 _ _ (u _ _ e)
    rcases q with rfl | rfl | q | q
    · rw [ha2] at hs2; cases hs2
    · rw [(hfr _ (by simp)).1] at hs2; cases hs2
    · have := u _ _ e
      rw [(W.wn b q).1] at this; cases this
    · exact hb q
  have C4 : CI w A M s4 a cenv oc wr St σ' 0 s4 := ⟨Chg.rfl _, c4', st4, m, Fr.F, hB4⟩
  have kinds : ∀ d ∈ ds, ∀ q ∈ β d ++ σ', cenv.kindOf q.1 = some .local ∨ cenv.kindOf q.1 = some .cell ∨ cenv.kindOf q.1 = some .free := fun d hd q hq => by
    rcases List.mem_append.mp hq with hq | hq
    · rcases Fr.sto q.1 ((ht d hd).keys _ (List.mem_map.mpr ⟨_, hq, rfl⟩)) with h | ⟨h, _⟩
      · exact .inl h
      · exact .inr (.inl h)
    · exact .inr (Fr.knd _ (hσ q hq).1)
  have hM' : a ∈ a :: cenv.locals :: wr ++ M := by simp
  have loop : codeAny (model pg w) A (.compLoop e 0 (.ref J) (.ref a) cenv) (RR (.ref a) cenv.locals) s4 := by
    refine hloop a cenv _ (fun n s' => ∃ i, n = ds.length - i ∧ i ≤ ds.length ∧ CI w A M s4 a cenv oc wr St σ' i s' ∧ Acc a (a :: cenv.locals :: wr ++ M) i s'.heap) ds.length s4 ?_
      ⟨0, rfl, Nat.zero_le _, C4, hacc0 _ _ _ hpl4⟩
    rintro n s' ⟨i, rfl, hi, C, hall⟩
    by_cases hlt : i < ds.length
    · have hdi : ds[i]? = some ds[i] := by simp [hlt]
      have hdm : ds[i] ∈ ds := List.getElem_mem hlt
      refine wpAny_mono (comp_step (K := fun s6 => wpAny (model pg w) A (testsTree ifs cenv) (fun ok s₃ =>
            if ok = true then wpAny (model pg w) A (emit a cenv) (fun _ s₅ => ∃ m, m < ds.length - i ∧ ∃ i, m = ds.length - i ∧ i ≤ ds.length ∧ CI w A M s4 a cenv oc wr St σ' i s₅ ∧ Acc a (a :: cenv.locals :: wr ++ M) i s₅.heap) (fun _ _ => False) s₃
            else ∃ m, m < ds.length - i ∧ ∃ i, m = ds.length - i ∧ i ≤ ds.length ∧ CI w A M s4 a cenv oc wr St σ' i s₃ ∧ Acc a (a :: cenv.locals :: wr ++ M) i s₃.heap) (fun _ _ => False) s6)
        W (fun b o e => Keeps.upto k4 _ _ (Keeps.upto k3 _ _ e)) hfr Fr.ok.k Fr.sto hdis hcw C hlt hdi (ht _ hdm) ?_) (fun r s1 q => ?_) fun _ _ q => q
      · intro s6 C6 ⟨m6, F6, B6⟩ st6 ch6
        have hall6 : Acc a (a :: cenv.locals :: wr ++ M) i s6.heap := hacc _ _ _ _ _ hM' hall st6 fun o e => ch6.h _ _ (fun q => by
          rcases List.mem_append.mp q with q | q
          · exact hane a q rfl
          · exact hawr q) e
        have V6 : VarsOk w (a :: cenv.locals :: wr ++ M) s6.heap cenv (β ds[i] ++ σ') := varsOk_of F6 (kinds _ hdm) B6
        refine ((hif _ hdm).run cenv _ _ Fr.ok V6).use (Up.refl _) C6.cx fun ok s7 k7 c7 e7 => ?_
        subst e7
        have C7 : CI w A M s4 a cenv oc wr St σ' (i + 1) s7 := ⟨C6.ch.trs (Keeps.chg k7), c7, W.W.frame _ _ _ C6.st fun b _ o e => Keeps.upto k7 _ _ e, let ⟨m, F, B⟩ := C6.fr; ⟨m, F.up (Keeps.upto k7), fun q hq => let ⟨v, e1, e2⟩ := B q hq; ⟨v, e1, e2.up (Keeps.upto k7)⟩⟩⟩
        have hall7 : Acc a (a :: cenv.locals :: wr ++ M) i s7.heap := hacc _ _ _ _ _ hM' hall6 ((Keeps.upto k7).stays fun _ h => h) fun o e => Keeps.upto k7 _ _ e
        cases hp : p ds[i] with
        | false =>
          simp only [Bool.false_eq_true, if_false]
          exact ⟨_, by omega, i + 1, rfl, hlt, C7, hskip _ _ _ _ _ hdi hp hall7⟩
        | true =>
          simp only [if_true]
          have hw7 : ∀ t ∈ a :: cenv.locals :: oc ++ wr, ∀ c o, s2.heap.get? c = some o → c ∉ wr → c ≠ t ∨ c ∈ wr := fun t ht c o e hcw' => by
            rcases List.mem_append.mp ht with ht | ht
            · exact .inl fun q => by subst q; rw [(hfr _ ht).1] at e; cases e
            · exact .inl fun q => hcw' (q ▸ ht)
          have F7 : ∃ m, FRM cenv oc m s7.heap ∧ Bnd w (a :: cenv.locals :: wr ++ M) m s7.heap (β ds[i] ++ σ') := ⟨m6, F6.up (Keeps.upto k7), fun q hq => let ⟨v, e1, e2⟩ := B6 q hq; ⟨v, e1, e2.up (Keeps.upto k7)⟩⟩
          have hcel7 : ∀ x c, cenv.cells.lookup x = some c → c ≠ a ∧ ∃ o, s7.heap.get? c = some o := fun x c e => by
            rcases Fr.cel x c e with h | ⟨o, h⟩
            · obtain ⟨m, F, _⟩ := F7
              exact ⟨hane c (by simp [h]), F.live c (by simp [h])⟩
            · have h2 := Keeps.upto k2 _ _ (u _ _ h)
              refine ⟨(fun q => by subst q; rw [ha2] at h2; cases h2), o, Keeps.upto k7 _ _ (C6.ch.h c o (fun q => ?_) (Keeps.upto k4 _ _ (Keeps.upto k3 _ _ h2)))⟩
              rcases List.mem_append.mp q with q | q
              · rw [(hfr c q).1] at h2; cases h2
              · exact hcw x c e q
          refine wpAny_mono (hemit a oc _ i _ cenv s7 hdi hp Fr.ok Fr.sto hM' (by simp) (fun t ht => (hfr t ht).2.1) (fun q => hane a q rfl) hcel7 F7 (kinds _ hdm) c7 hall7) (fun _ s9 q => ?_) fun _ _ q => q.elim
          obtain ⟨ch9, c9, fr9, hall9⟩ := q
          refine ⟨_, ?_, i + 1, rfl, hlt, ⟨?_, c9, ?_, fr9⟩, hall9⟩
          · omega
          · exact C7.ch.tr ch9 fun t ht => .inl (by
              simp only [List.cons_append, List.mem_cons, List.mem_append] at ht ⊢
              rcases ht with ht | ht | ht <;> simp [ht])
          · refine W.W.frame _ _ _ C7.st fun b hb o e => ch9.h b o (fun q => ?_) e
            obtain ⟨o', e'⟩ := W.fl b hb
            rw [(hfr b q).1] at e'; cases e'
      · cases r with
        | none => exact q.elim
        | some v => exact q
    · have hin : i = ds.length := by omega
      refine wpAny_mono (wpAny_toks (Q := fun r s9 => r = none ∧ Chg wr s' s9) (E := fun _ _ => False) (W.W.done s' _ _ (hin ▸ C.st) fun h' tk hch => ⟨rfl, h', tk, rfl, hch⟩)) (fun r s9 q => ?_) fun _ _ q => q.2.elim
      obtain ⟨tk9, rfl, ch9⟩ := q
      show RR _ _ _ _
      have st9 : Stays (a :: cenv.locals :: wr ++ M) (a :: cenv.locals :: wr ++ M) s'.heap s9.heap := ch9.h.stays fun t ht => .inl (by simp [ht])
      have c9 : CX w A (cenv.locals :: M) s9 := (C.cx.weak (M' := cenv.locals :: M) (fun t ht => by
        simp only [List.mem_cons, List.cons_append, List.mem_append] at ht ⊢
        rcases ht with ht | ht <;> simp [ht])).chg ch9 (fun t ht => ⟨(W.wn t ht).2.2, fun h => by
          rcases List.mem_cons.mp h with rfl | h
          · obtain ⟨o, e⟩ := W.fl _ (W.W.sub _ ht)
            rw [(hfr _ (by simp)).1] at e; cases e
          · exact absurd h (W.wn t ht).2.1⟩) tk9
      obtain ⟨m', F', _⟩ := C.fr
      have hwl : cenv.locals ∉ wr := fun q => by
        obtain ⟨o, e⟩ := W.fl _ (W.W.sub _ q)
        rw [(hfr _ (by simp)).1] at e; cases e
      refine hRR a cenv.locals s9 ?_ c9 ?_ (hfr _ (by simp)).2.2 ⟨a :: cenv.locals :: wr ++ M, hM', fun t ht => ?_, ?_⟩ ?_ (hfr a (by simp)).2.1 ?_
      · refine Chg.keeps (T := a :: cenv.locals :: oc ++ wr) (((Keeps.chg (Keeps.tr (Keeps.tr k2 k3) k4)).tr C.ch fun t ht => .inl ht).tr ch9 fun t ht => .inl (by simp [ht])) fun t ht => ?_
        rcases List.mem_append.mp ht with ht | ht
        · exact none_down (Keeps.upto k2) (hfr t ht).1
        · exact (W.wn t ht).1
      · exact none_down (Keeps.upto k2) (hfr _ (by simp)).1
      · simp only [List.mem_cons, List.cons_append, List.mem_append] at ht ⊢
        rcases ht with ht | ht <;> simp [ht]
      · exact hin ▸ hacc _ _ _ _ _ hM' hall st9 fun o e => ch9.h _ _ hawr e
      · intro q
        rcases List.mem_cons.mp q with q | q
        · exact hane _ (by simp) q.symm
        · exact (hfr a (by simp)).2.2 q
      · obtain ⟨ml, hn, _⟩ := F'.ns
        exact ⟨ml, hn.at' fun o e => ch9.h _ _ hwl e⟩
  exact hstart a cenv _ s4 loop (W.W.self 0 s4 _ _ st4 loop)
end
end Mine
-- G8
namespace Mine
section
variable {w : World} {A : Around} {ns : List (Str × NameKind)} {σ : Sg} {M : List Addr} {g : Heap} {env : Env}
noncomputable def emit2 (e : Expr) (i2 : Expr) (acc : Value) (env : Env) : Sem Unit := do
  let x ← eval i2 env
  standAt i2.pos
  let x ← foldedSetIterable i2 env x
  let _ ← runOwn (.compStart e 1 (← holding [x] (pyIter x)) acc env) env
theorem compTurn_outer (elt t1 i1 t2 i2 : Expr) (ifs1 ifs2 : List Expr) (scope : Scope) (pos : Pos) (it acc : Value) (env : Env) :
    compTurn (.ListComp elt [⟨t1, i1, ifs1, 0⟩, ⟨t2, i2, ifs2, 0⟩] scope pos) 0 it acc env = (do
      standAt i1.pos
      match ← pyNext it with
      | none => pure (.done .next)
      | some v =>
        letOwnedTupleGo t1 it v
        assign t1 env v
        let mut ok := true
        for c in ifs1 do
          if ok then ok ← isTrue c env (eval c env)
        if ok then
          (do
            let x ← eval i2 env
            standAt i2.pos
            let x ← foldedSetIterable i2 env x
            let _ ← runOwn (.compStart (.ListComp elt [⟨t1, i1, ifs1, 0⟩, ⟨t2, i2, ifs2, 0⟩] scope pos) 1 (← holding [x] (pyIter x)) acc env) env)
        again (.compLoop (.ListComp elt [⟨t1, i1, ifs1, 0⟩, ⟨t2, i2, ifs2, 0⟩] scope pos) 0 it acc env)) := by
  simp only [bind_assoc, pure_bind]
  rfl
theorem compTurn_inner (elt t1 i1 t2 i2 : Expr) (ifs1 ifs2 : List Expr) (scope : Scope) (pos : Pos) (it acc : Value) (env : Env) :
    compTurn (.ListComp elt [⟨t1, i1, ifs1, 0⟩, ⟨t2, i2, ifs2, 0⟩] scope pos) 1 it acc env = (do
      standAt i2.pos
      match ← pyNext it with
      | none => pure (.done .next)
      | some v =>
        letOwnedTupleGo t2 it v
        assign t2 env v
        let mut ok := true
        for c in ifs2 do
          if ok then ok ← isTrue c env (eval c env)
        if ok then
          (do let _ ← call (.builtin "list.append") [acc, ← eval elt env])
        again (.compLoop (.ListComp elt [⟨t1, i1, ifs1, 0⟩, ⟨t2, i2, ifs2, 0⟩] scope pos) 1 it acc env)) := by rfl
section
variable {R : Result → Shared → Prop} {s : Shared} {elt t1 i1 t2 i2 : Expr} {ifs1 ifs2 : List Expr} {scope : Scope} {pos : Pos} {it acc : Value}
theorem compLoop_outer (I : Nat → Shared → Prop)
    (turn : Turn w A R t1 ifs1 (emit2 (.ListComp elt [⟨t1, i1, ifs1, 0⟩, ⟨t2, i2, ifs2, 0⟩] scope pos) i2 acc env) it env I) (n : Nat) (h : I n s) :
    codeAny (model pg w) A (.compLoop (.ListComp elt [⟨t1, i1, ifs1, 0⟩, ⟨t2, i2, ifs2, 0⟩] scope pos) 0 it acc env) R s := by
  refine codeAny_loop rfl I (fun n s hI => ?_) n h
  show wpAny _ A ((compTurn (.ListComp elt [⟨t1, i1, ifs1, 0⟩, ⟨t2, i2, ifs2, 0⟩] scope pos) 0 it acc env).onRaise (fun x => do noteFrame x env; theTreesLotGoes x)) _ _ s
  refine wpAny_noted ?_
  rw [compTurn_outer]
  refine wpAny_bind (wpAny_standAt (wpAny_bind (wpAny_mono (turn n s hI) (fun r s₁ h₁ => ?_) fun _ _ h' => h'.elim)))
  cases r with
  | none => exact wpAny_pure h₁
  | some v =>
    refine wpAny_bind (wpAny_mono h₁ (fun _ s₁' h₁' => ?_) fun _ _ h' => h'.elim)
    refine wpAny_bind (wpAny_mono h₁' (fun _ s₂ h₂ => wpAny_bind (wpAny_mono h₂ (fun ok s₃ h₃ => ?_) fun _ _ h' => h'.elim)) fun _ _ h' => h'.elim)
    cases ok with
    | false => exact wpAny_pure ⟨rfl, h₃⟩
    | true => exact wpAny_bind (wpAny_mono (show wpAny _ A (emit2 _ i2 acc env) _ _ s₃ from h₃) (fun _ s₅ h₅ => wpAny_pure ⟨rfl, h₅⟩) fun _ _ h' => h'.elim)
theorem compLoop_inner (I : Nat → Shared → Prop)
    (turn : Turn w A R t2 ifs2 (emitL acc elt env) it env I) (n : Nat) (h : I n s) :
    codeAny (model pg w) A (.compLoop (.ListComp elt [⟨t1, i1, ifs1, 0⟩, ⟨t2, i2, ifs2, 0⟩] scope pos) 1 it acc env) R s := by
  refine codeAny_loop rfl I (fun n s hI => ?_) n h
  show wpAny _ A ((compTurn (.ListComp elt [⟨t1, i1, ifs1, 0⟩, ⟨t2, i2, ifs2, 0⟩] scope pos) 1 it acc env).onRaise (fun x => do noteFrame x env; theTreesLotGoes x)) _ _ s
  refine wpAny_noted ?_
  rw [compTurn_inner]
  refine wpAny_bind (wpAny_standAt (wpAny_bind (wpAny_mono (turn n s hI) (fun r s₁ h₁ => ?_) fun _ _ h' => h'.elim)))
  cases r with
  | none => exact wpAny_pure h₁
  | some v =>
    refine wpAny_bind (wpAny_mono h₁ (fun _ s₁' h₁' => ?_) fun _ _ h' => h'.elim)
    refine wpAny_bind (wpAny_mono h₁' (fun _ s₂ h₂ => wpAny_bind (wpAny_mono h₂ (fun ok s₃ h₃ => ?_) fun _ _ h' => h'.elim)) fun _ _ h' => h'.elim)
    cases ok with
    | false => exact wpAny_pure ⟨rfl, h₃⟩
    | true => exact wpAny_bind (wpAny_mono (show wpAny _ A (emitL acc elt env) _ _ s₃ from h₃) (fun _ s₅ h₅ => wpAny_pure ⟨rfl, h₅⟩) fun _ _ h' => h'.elim)
theorem compStart_inner
    (h0 : codeAny (model pg w) A (.compLoop (.ListComp elt [⟨t1, i1, ifs1, 0⟩, ⟨t2, i2, ifs2, 0⟩] scope pos) 1 it acc env) R s)
    (h : wpAny (model pg w) A (pyIter it) (fun it' s' => codeAny (model pg w) A (.compLoop (.ListComp elt [⟨t1, i1, ifs1, 0⟩, ⟨t2, i2, ifs2, 0⟩] scope pos) 1 it' acc env) R s')
      (fun _ _ => False) s) :
    codeAny (model pg w) A (.compStart (.ListComp elt [⟨t1, i1, ifs1, 0⟩, ⟨t2, i2, ifs2, 0⟩] scope pos) 1 it acc env) R s := by
  refine codeAny_of_tree ?_
  show wpAny _ _ ((compStart (.ListComp elt [⟨t1, i1, ifs1, 0⟩, ⟨t2, i2, ifs2, 0⟩] scope pos) 1 it acc env).onRaise (fun x => do noteFrame x env; standAt theWindowsPlace)) _ _ s
  refine wpAny_notedAt ?_
  unfold compStart
  show wpAny _ _ (ask >>= _) _ _ s
  refine wpAny_bind (wpAny_askSetting (wpAny_ite ?_))
  split
  · first
      | exact wpAny_bind (wpAny_pure (wpAny_pure (And.intro rfl h0)))
      | exact wpAny_pure (And.intro rfl h0)
  · exact wpAny_bind (wpAny_rule (wpAny_bind (wpAny_standAt (wpAny_bind (wpAny_mono h (fun it' s' h' => wpAny_pure (And.intro rfl h')) fun _ _ x => x.elim)))))
end
end
end Mine
-- G9
namespace Mine
section
variable {w : World} {A : Around} {ns : List (Str × NameKind)} {σ : Sg} {M : List Addr} {g : Heap} {env : Env}
/-- what the list holds -/
noncomputable def AccN (out : D → List PyData) (ds : List D) (a : Addr) (M' : List Addr) (i : Nat) (h : Heap) : Prop := ∃ ys, h.PlainList a ys ∧ IsAll M' h ((ds.take i).map out).flatten ys.toList
noncomputable def ListN (pre : List PyData) (a : Addr) (M' : List Addr) (h : Heap) : Prop := ∃ ys, h.PlainList a ys ∧ IsAll M' h pre ys.toList
theorem inner_loop {elt t1 i1 t2 i2 : Expr} {ifs1 ifs2 : List Expr} {scope : Scope} {pos : Pos} {names : List (Str × NameKind)} {cenv : Env} {oc M' : List Addr} {a : Addr} {s : Shared} {σ2 : Sg} {ds : List D} (β2 : D → Sg) (p2 : D → Bool) (f2 : D → PyData) (pre : List PyData)
    (hi : ITER w A names σ2 i2 ds) (hok : EnvOk cenv names)
    (hsto : ∀ x, (x, NameKind.local) ∈ scope.names ∨ (x, NameKind.cell) ∈ scope.names → Sto cenv oc x)
    (ht : ∀ d ∈ ds, TgtS scope.names t2 d (β2 d)) (hdis : ∀ d ∈ ds, ∀ q ∈ σ2, q.1 ∉ (β2 d).map (·.1))
    (hif : ∀ d ∈ ds, TTs w A names (β2 d ++ σ2) ifs2 (p2 d)) (hel : ∀ d ∈ ds, p2 d = true → EE w A names (β2 d ++ σ2) elt (.d (f2 d)))
    (haM : a ∈ M') (hlM : cenv.locals ∈ M') (h106 : ∀ t ∈ a :: cenv.locals :: oc, 106 < t) (hao : a ∉ cenv.locals :: oc)
    (hcel : ∀ x c, cenv.cells.lookup x = some c → c ≠ a ∧ ∃ o, s.heap.get? c = some o) (F0 : ∃ m, FRM cenv oc m s.heap ∧ Bnd w M' m s.heap σ2)
    (hkn : ∀ d ∈ ds, ∀ q ∈ β2 d ++ σ2, cenv.kindOf q.1 = some .local ∨ cenv.kindOf q.1 = some .cell ∨ cenv.kindOf q.1 = some .free) (hkn0 : ∀ q ∈ σ2, cenv.kindOf q.1 = some .local ∨ cenv.kindOf q.1 = some .cell ∨ cenv.kindOf q.1 = some .free)
    (cx : CX w A M' s) (hacc : ListN pre a M' s.heap) (hz : pre.length + ds.length ≤ sizeLine) (hs : ∀ env x, foldedSetIterable i2 env x = pure x := by intro _ _; rfl) :
    wpAny (model pg w) A (emit2 (.ListComp elt [⟨t1, i1, ifs1, 0⟩, ⟨t2, i2, ifs2, 0⟩] scope pos) i2 (.ref a) cenv)
      (fun _ s' => Chg (a :: cenv.locals :: oc) s s' ∧ CX w A M' s' ∧ (∃ m, FRM cenv oc m s'.heap ∧ Bnd w M' m s'.heap σ2) ∧ ListN (pre ++ (ds.filter p2).map f2) a M' s'.heap) (fun _ _ => False) s := by
  obtain ⟨m0, F0, B0⟩ := F0
  have V0 : VarsOk w M' s.heap cenv σ2 := varsOk_of F0 hkn0 B0
  unfold emit2
  refine wpAny_bind (wpAny_mono (hi.run cenv M' s.heap (fun it s2 => wpAny (model pg w) A (runOwn (.compStart (.ListComp elt [⟨t1, i1, ifs1, 0⟩, ⟨t2, i2, ifs2, 0⟩] scope pos) 1 it (.ref a) cenv) cenv) (fun _ s' => Chg (a :: cenv.locals :: oc) s s' ∧ CX w A M' s' ∧ (∃ m, FRM cenv oc m s'.heap ∧ Bnd w M' m s'.heap σ2) ∧ ListN (pre ++ (ds.filter p2).map f2) a M' s'.heap) (fun _ _ => False) s2) (fun _ _ => False) s hok V0 (Up.refl _) cx fun s2 J fp wr P St k2 c2 W => ?_) (fun x s1 h => ?_) fun _ _ e => e)
  rotate_left
  · refine wpAny_bind (wpAny_standAt (wpAny_bind (wpAny_of_eq (hs _ _) (wpAny_bind (wpAny_holding (wpAny_mono h (fun it s2 h2 => ?_) fun _ _ e => e))))))
    exact wpAny_bind (wpAny_mono h2 (fun _ s' h' => wpAny_pure h') fun _ _ e => e)
  -- the run of the inner loop
  refine wpAny_runOwn ?_ 
  rw [Around.mark_none]
  obtain ⟨ys0, hl0, hi0⟩ := hacc
  have F2 : FRM cenv oc m0 s2.heap := F0.up (Keeps.upto k2)
  have hne : ∀ t ∈ a :: cenv.locals :: oc, ∃ o, s.heap.get? t = some o := fun t ht => by
    rcases List.mem_cons.mp ht with rfl | ht
    · exact (cx.live _ haM).2
    · exact F0.live t ht
  have hoc : ∀ t ∈ oc, ∀ o, s2.heap.get? t = some o → ¬ Kept o := fun t ht => by
    obtain ⟨_, x, hk, e⟩ := F2.oc t ht
    exact cell_notKept (F2.cl x t (by rw [hk]; decide) e)
  have hwr : ∀ t ∈ a :: cenv.locals :: oc, t ∉ wr := fun t ht q => by
    obtain ⟨o, e⟩ := hne t ht
    rw [(W.wn t q).1] at e; cases e
  have hbf : ∀ b o, s2.heap.get? b = some o → Kept o → b ∉ M' → b ∉ a :: cenv.locals :: oc := fun b o e hk hb q => by
    rcases List.mem_cons.mp q with rfl | q
    · exact hb haM
    · rcases List.mem_cons.mp q with rfl | q
      · exact hb hlM
      · exact hoc b q o e hk
  have hfp : ∀ t ∈ a :: cenv.locals :: oc, t ∉ fp := fun t ht q => by
    rcases W.fs t q with h | ⟨h1, h2⟩
    · exact hwr t ht h
    · obtain ⟨o, e⟩ := W.fl t q
      exact hbf t o e (h2 o e) h1 ht
  have hcw : ∀ x c, cenv.cells.lookup x = some c → c ∉ wr := fun x c e q => by
    obtain ⟨_, o, e'⟩ := hcel x c e
    rw [(W.wn c q).1] at e'; cases e'
  have hawr : a ∉ wr := hwr a (by simp)
  have hMM : a ∈ a :: cenv.locals :: wr ++ M' := by simp
  have c2' : CX w A (a :: cenv.locals :: wr ++ M') s2 := ⟨c2.hh, c2.dp, c2.un, fun b hb => by
    simp only [List.cons_append, List.mem_cons, List.mem_append] at hb
    rcases hb with rfl | rfl | hb | hb
    · exact c2.live _ haM
    · exact c2.live _ hlM
    · obtain ⟨o, e, _⟩ := W.sw 0 _ W.st b hb
      exact ⟨(W.wn b hb).2.2, o, e⟩
    · exact c2.live b hb, c2.base, c2.tk⟩
  have stw : Stays M' (a :: cenv.locals :: wr ++ M') s.heap s2.heap := fun b o hb hk e => ⟨Keeps.upto k2 _ _ e, fun q => by
    simp only [List.cons_append, List.mem_cons, List.mem_append] at q
    rcases q with rfl | rfl | q | q
    · exact hb haM
    · exact hb hlM
    · rw [(W.wn b q).1] at e; cases e
    · exact hb q⟩
  have C0 : CI w A M' s2 a cenv oc wr St σ2 0 s2 := ⟨Chg.rfl _, c2', W.st, m0, F2, fun q hq => let ⟨v, e1, e2⟩ := B0 q hq; ⟨v, e1, e2.stays stw⟩⟩
  have loop : codeAny (model pg w) A (.compLoop (.ListComp elt [⟨t1, i1, ifs1, 0⟩, ⟨t2, i2, ifs2, 0⟩] scope pos) 1 (.ref J) (.ref a) cenv) (fun r s' => match r with | .ok f => Chg (a :: cenv.locals :: oc) s s' ∧ CX w A M' s' ∧ (∃ m, FRM cenv oc m s'.heap ∧ Bnd w M' m s'.heap σ2) ∧ ListN (pre ++ (ds.filter p2).map f2) a M' s'.heap | .error e => cameBackBy (model pg w) A cenv (fun _ _ => False) e s') s2 := by
    refine compLoop_inner (fun n s' => ∃ i, n = ds.length - i ∧ i ≤ ds.length ∧ CI w A M' s2 a cenv oc wr St σ2 i s' ∧ ListN (pre ++ ((ds.take i).filter p2).map f2) a (a :: cenv.locals :: wr ++ M') s'.heap) ?_ ds.length
      ⟨0, rfl, Nat.zero_le _, C0, ys0, hl0.at fun o e => Keeps.upto k2 _ _ e, by simpa using hi0.stays stw⟩
    rintro n s' ⟨i, rfl, hi', C, hall⟩
    by_cases hlt : i < ds.length
    · have hdi : ds[i]? = some ds[i] := by simp [hlt]
      have hdm : ds[i] ∈ ds := List.getElem_mem hlt
      refine wpAny_mono (comp_step2 (K := fun s6 => wpAny (model pg w) A (testsTree ifs2 cenv) (fun ok s₃ =>
            if ok = true then wpAny (model pg w) A (emitL (.ref a) elt cenv) (fun _ s₅ => ∃ m, m < ds.length - i ∧ ∃ i, m = ds.length - i ∧ i ≤ ds.length ∧ CI w A M' s2 a cenv oc wr St σ2 i s₅ ∧ ListN (pre ++ ((ds.take i).filter p2).map f2) a (a :: cenv.locals :: wr ++ M') s₅.heap) (fun _ _ => False) s₃
            else ∃ m, m < ds.length - i ∧ ∃ i, m = ds.length - i ∧ i ≤ ds.length ∧ CI w A M' s2 a cenv oc wr St σ2 i s₃ ∧ ListN (pre ++ ((ds.take i).filter p2).map f2) a (a :: cenv.locals :: wr ++ M') s₃.heap) (fun _ _ => False) s6)
        W (Up.refl _) hfp hbf hok.k hsto (hdis _ hdm) hcw C hlt hdi (ht _ hdm) ?_) (fun r s1 q => ?_) fun _ _ q => q
      · intro s6 C6 ⟨m6, F6, B6⟩ st6 ch6
        obtain ⟨ys, hl, hy⟩ := hall
        have hl6 : s6.heap.PlainList a ys := hl.at fun o e => ch6.h _ _ (fun q => by
          rcases List.mem_append.mp q with q | q
          · exact hao q
          · exact hawr q) e
        have hy6 := hy.stays st6
        have V6 : VarsOk w (a :: cenv.locals :: wr ++ M') s6.heap cenv (β2 ds[i] ++ σ2) := varsOk_of F6 (hkn _ hdm) B6
        refine ((hif _ hdm).run cenv _ _ hok V6).use (Up.refl _) C6.cx fun ok s7 k7 c7 e7 => ?_
        subst e7
        have C7 : CI w A M' s2 a cenv oc wr St σ2 (i + 1) s7 := ⟨C6.ch.trs (Keeps.chg k7), c7, W.W.frame _ _ _ C6.st fun b _ o e => Keeps.upto k7 _ _ e, let ⟨m, F, B⟩ := C6.fr; ⟨m, F.up (Keeps.upto k7), fun q hq => let ⟨v, e1, e2⟩ := B q hq; ⟨v, e1, e2.up (Keeps.upto k7)⟩⟩⟩
        have hl7 : s7.heap.PlainList a ys := hl6.at fun o e => Keeps.upto k7 _ _ e
        have hy7 := hy6.up (Keeps.upto k7)
        cases hp : p2 ds[i] with
        | false =>
          simp only [Bool.false_eq_true, if_false]
          refine ⟨_, (by omega : ds.length - (i + 1) < ds.length - i), i + 1, rfl, hlt, C7, ys, hl7, ?_⟩
          rw [take_succ_of hdi, List.filter_append]
          simpa [hp] using hy7
        | true =>
          simp only [if_true]
          unfold emitL
          refine wpAny_bind (((hel _ hdm hp).run cenv _ _ hok (V6.up (Keeps.upto k7))).use (Up.refl _) c7 fun y s8 k8 c8 e8 => wpAny_bind ?_)
          have hys : ys.size ≤ sizeLine := by
            have e1 := hy.length
            rw [Array.length_toList, List.length_append, List.length_map] at e1
            have e2 : ((ds.take i).filter p2).length ≤ ds.length := Nat.le_trans (List.length_filter_le _ _) (by rw [List.length_take]; exact Nat.min_le_right _ _)
            omega
          refine wpAny_mono (wpAny_toks (Q := fun _ s9 => Chg [a] s8 s9 ∧ s9.heap.PlainList a (ys.push y)) (E := fun _ _ => False) (wpAny_list_append_plain (hsz := hys) (hl7.at fun o e => Keeps.upto k8 _ _ e) fun h' hl' hs' => ⟨⟨h', s8.toks, rfl, sameBut_chg hs'⟩, hl'⟩)) (fun _ s9 q => wpAny_pure ?_) fun _ _ q => q.2.elim
          obtain ⟨tk9, ch, hl9⟩ := q
          have st9 : Stays (a :: cenv.locals :: wr ++ M') (a :: cenv.locals :: wr ++ M') s8.heap s9.heap := ch.h.stays fun t ht => .inl (by simp at ht; subst ht; exact hMM)
          have ch79 : Chg [a] s7 s9 := (Keeps.chg k8).trs ch
          have hal : ∃ o, s9.heap.get? a = some o := let ⟨n, e⟩ := hl9; ⟨_, e⟩
          refine ⟨_, (by omega : ds.length - (i + 1) < ds.length - i), i + 1, rfl, hlt, ⟨?_, ?_, ?_, ?_⟩, ys.push y, hl9, ?_⟩
          · exact C7.ch.tr ch79 fun t ht => .inl (by simp at ht; simp [ht])
          · exact c8.chg ch (fun t ht => by obtain rfl := List.mem_singleton.mp ht; exact ⟨h106 _ (by simp), fun _ => hal⟩) tk9
          · refine W.W.frame _ _ _ C7.st fun b hb o e => ch79.h b o (fun q => ?_) e
            obtain rfl := List.mem_singleton.mp q
            exact hfp _ (by simp) hb
          · obtain ⟨m8, F8, B8⟩ := C7.fr
            have st79 : Stays (a :: cenv.locals :: wr ++ M') (a :: cenv.locals :: wr ++ M') s7.heap s9.heap := ch79.h.stays fun t ht => .inl (by simp at ht; subst ht; exact hMM)
            refine ⟨m8, F8.chg ch79.h (fun q => hao (by rw [List.mem_singleton.mp q]; simp)) (fun x c e q => (hcel x c e).1 (List.mem_singleton.mp q)), fun q hq => let ⟨v, e1, e2⟩ := B8 q hq; ⟨v, e1, e2.stays st79⟩⟩
          · rw [take_succ_of hdi, List.filter_append, List.map_append]
            have e1 := (hy7.up (Keeps.upto k8)).stays st9
            have e2 : Is (a :: cenv.locals :: wr ++ M') s9.heap (f2 ds[i]) y := Is.stays st9 e8
            simpa [hp] using isAll_append e1 (isAll_cons e2 isAll_nil)
      · cases r with
        | none => exact q.elim
        | some v => exact q
    · have hin : i = ds.length := by omega
      refine wpAny_mono (wpAny_toks (Q := fun r s9 => r = none ∧ Chg wr s' s9) (E := fun _ _ => False) (W.W.done s' _ _ (hin ▸ C.st) fun h' tk hch => ⟨rfl, h', tk, rfl, hch⟩)) (fun r s9 q => ?_) fun _ _ q => q.2.elim
      obtain ⟨tk9, rfl, ch9⟩ := q
      dsimp only
      have st9 : Stays (a :: cenv.locals :: wr ++ M') (a :: cenv.locals :: wr ++ M') s'.heap s9.heap := ch9.h.stays fun t ht => .inl (by simp [ht])
      have hsub : ∀ t ∈ M', t ∈ a :: cenv.locals :: wr ++ M' := fun t ht => by simp [ht]
      have cc : Chg (a :: cenv.locals :: oc) s s9 := by
        refine (((Keeps.chg k2).trs C.ch).tr ch9 fun t ht => .inl (by simp [ht])).mono fun t ht => ?_
        rcases List.mem_append.mp ht with ht | ht
        · exact .inl ht
        · exact .inr (W.wn t ht).1
      obtain ⟨m9, F9, B9⟩ := C.fr
      obtain ⟨ys, hl, hy⟩ := hall
      refine ⟨cc, (C.cx.weak hsub).chg ch9 (fun t ht => ⟨(W.wn t ht).2.2, fun h => absurd h (W.wn t ht).2.1⟩) tk9, ⟨m9, F9.chg ch9.h (fun q => hwr _ (by simp) q) hcw, fun q hq => let ⟨v, e1, e2⟩ := B9 q hq; ⟨v, e1, (e2.stays st9).weak hsub⟩⟩, ys, hl.at fun o e => ch9.h _ _ hawr e, ?_⟩
      rw [hin, List.take_length] at hy
      exact (hy.stays st9).weak hsub
  exact compStart_inner loop (W.W.self 0 s2 _ _ W.st loop)
end
end Mine
-- G10
namespace Mine
section
variable {w : World} {A : Around} {ns : List (Str × NameKind)} {σ : Sg} {M : List Addr} {g : Heap} {env : Env}
theorem ce_list2 {elt t1 i1 t2 i2 : Expr} {ifs2 : List Expr} {scope : Scope} {pos : Pos} {ds : List D} (β : D → Sg) (ds2 : D → List D) (β2 : D → D → Sg) (p2 : D → D → Bool) (f2 : D → D → PyData) (N : Nat)
    (hi : ITER w A ns σ i1 ds)
    (ht : ∀ d ∈ ds, TgtS scope.names t1 d (β d))
    (hi2 : ∀ d ∈ ds, ITER w A (rel ns scope.names) (β d) i2 (ds2 d))
    (ht2 : ∀ d ∈ ds, ∀ e ∈ ds2 d, TgtS scope.names t2 e (β2 d e))
    (hdis : ∀ d ∈ ds, ∀ e ∈ ds2 d, ∀ q ∈ β d, q.1 ∉ (β2 d e).map (·.1))
    (hif : ∀ d ∈ ds, ∀ e ∈ ds2 d, TTs w A (rel ns scope.names) (β2 d e ++ β d) ifs2 (p2 d e))
    (hel : ∀ d ∈ ds, ∀ e ∈ ds2 d, p2 d e = true → EE w A (rel ns scope.names) (β2 d e ++ β d) elt (.d (f2 d e)))
    (hkn2 : ∀ x, (x, NameKind.local) ∈ scope.names ∨ (x, NameKind.cell) ∈ scope.names → (rel ns scope.names).lookup x = some .local ∨ (rel ns scope.names).lookup x = some .cell)
    (hN : ∀ i, (((ds.take i).map fun d => ((ds2 d).filter (p2 d)).map (f2 d)).flatten).length ≤ N) (hN2 : ∀ d ∈ ds, (ds2 d).length ≤ N) (hNN : N + N ≤ sizeLine)
    (hc : compOk ns scope.names (σ.map (·.1)) = true) (hsk : scope.kind = .function := by rfl)
    (hs : ∀ env x, foldedSetIterable i1 env x = pure x := by intro _ _; rfl) (hs2 : ∀ env x, foldedSetIterable i2 env x = pure x := by intro _ _; rfl) : CE w A ns σ (.ListComp elt [⟨t1, i1, [], 0⟩, ⟨t2, i2, ifs2, 0⟩] scope pos) (L ((ds.map fun d => ((ds2 d).filter (p2 d)).map (f2 d)).flatten)) := .mk <| fun env M s u Q E he hv c k => by
  obtain ⟨hclos, hnames⟩ := comp_hyps (scope := scope) he hv hc
  show wpAny _ A (comprehension (.ListComp elt [⟨t1, i1, [], 0⟩, ⟨t2, i2, ifs2, 0⟩] scope pos) scope env (firstIterPos [⟨t1, i1, [], 0⟩, ⟨t2, i2, ifs2, 0⟩] pos) (newList []) false (eval i1 env) u) Q E s
  refine wpAny_comprehension_free (use := u) (g := ⟨t1, i1, [], 0⟩) (gs := [⟨t2, i2, ifs2, 0⟩]) rfl (hs env) hclos hsk hnames (hi.run env M s.heap _ _ s he hv (Up.refl _) c fun s2 J fp wr P St k2 c2 W => ?_)
  refine comp_core2 (accO := { cls := .type "list", data := .seq ([] : List Value).toArray }) (fun a cenv => emit2 (.ListComp elt [⟨t1, i1, [], 0⟩, ⟨t2, i2, ifs2, 0⟩] scope pos) i2 (.ref a) cenv) (AccN (fun d => ((ds2 d).filter (p2 d)).map (f2 d)) ds) β (fun _ => true) [] he hv (Up.refl _) k2 c2 W hsk hc (by simp) ht (fun d hd => tts_nil)
    (fun s Q E h => wpAny_newList h (by decide)) rfl ?_ ?_ (fun _ _ _ _ _ _ h => by cases h) ?_ (fun a cenv R I n s turn h => compLoop_outer I turn n h) (fun a cenv R s h0 h => codeAny_compStart_list h0 h) ?_
  · intro a M' h e
    exact ⟨#[], ⟨0, e⟩, by simpa using isAll_nil⟩
  · rintro a M' i h h' _ ⟨ys, h1, h2⟩ st ha
    exact ⟨ys, h1.at ha, h2.stays st⟩
  · rintro a oc M' i d cenv s hd _ hok hsto haM hlM h106 hao hcel hF hkn cx ⟨ys, h1, h2⟩
    have hdm : d ∈ ds := List.mem_of_getElem? hd
    rw [List.append_nil] at hF
    simp only [List.append_nil] at hkn
    have hkd : ∀ e ∈ ds2 d, ∀ q ∈ β2 d e ++ β d, cenv.kindOf q.1 = some .local ∨ cenv.kindOf q.1 = some .cell ∨ cenv.kindOf q.1 = some .free := fun e he' q hq => by
      rcases List.mem_append.mp hq with hq | hq
      · rw [lookup_kind hok]
        rcases hkn2 q.1 ((ht2 d hdm e he').keys _ (List.mem_map.mpr ⟨_, hq, rfl⟩)) with h | h
        · exact .inl h
        · exact .inr (.inl h)
      · exact hkn q hq
    refine wpAny_mono (inner_loop (names := rel ns scope.names) (σ2 := β d) (ds := ds2 d) (β2 d) (p2 d) (f2 d) (((ds.take i).map fun d => ((ds2 d).filter (p2 d)).map (f2 d)).flatten) (hi2 d hdm) hok hsto (ht2 d hdm) (hdis d hdm) (hif d hdm) (hel d hdm) haM hlM h106 hao hcel hF hkd hkn cx ⟨ys, h1, h2⟩ (Nat.le_trans (Nat.add_le_add (hN i) (hN2 d hdm)) hNN) hs2) (fun _ s' q => ?_) fun _ _ e => e
    obtain ⟨q1, q2, ⟨m, q3, q4⟩, ys', q5, q6⟩ := q
    refine ⟨q1, q2, ⟨m, q3, fun _ h => by simp at h⟩, ys', q5, ?_⟩
    rw [take_succ_of hd, List.map_append, List.flatten_append]
    simpa using q6
  · rintro a C s' hk cx h1 h2 ⟨M', h3, h4, ys, h5, h6⟩ h7 _ h8
    refine k a C s' hk cx h1 h2 (toL h7 h5.isList ?_) h8
    rw [List.take_length] at h6
    exact h6.weak h4
end
end Mine
-- G11
namespace Mine
open PySem.StrLaws PySem.Builtin.Str
/-- a text of these codes -/
noncomputable def mkS (l : List Nat) : Str := ⟨l.toArray⟩
theorem mkS_list (l : List Nat) : (mkS l).cps.toList = l := rfl
theorem mkS_of (x : Str) : mkS x.cps.toList = x := by
  obtain ⟨⟨l⟩⟩ := x; rfl
theorem mkS_len (l : List Nat) : (mkS l).length = l.length := by simp [mkS, Str.length]
theorem len_list (x : Str) : x.cps.toList.length = x.length := by simp [Str.length]
theorem subAt_iff (x y : Str) (k : Nat) : subAt x y k = true ↔ y.cps.toList <+: x.cps.toList.drop k := by
  rw [subAt_eq]
  constructor
  · intro h
    have h := eq_of_beq h
    rw [← h]
    exact List.take_prefix _ _
  · intro h
    have h2 := List.prefix_iff_eq_take.mp h
    rw [len_list] at h2
    rw [← h2]
    exact beq_self_eq_true _
theorem at_iff (x y : Str) (k : Nat) (hy : 1 ≤ y.length) : At x y x.length k ↔ y.cps.toList <+: x.cps.toList.drop k := by
  constructor
  · intro h; exact (subAt_iff x y k).mp h.2
  · intro h
    refine ⟨?_, (subAt_iff x y k).mpr h⟩
    have := h.length_le
    rw [len_list, List.length_drop, len_list] at this
    omega
/-- the cut of a list at each y, from the left -/
inductive SplitL (y : List Nat) : List Nat → List (List Nat) → Prop
  | last {l} : (∀ k, ¬ y <+: l.drop k) → SplitL y l [l]
  | cut {a b ps} : (∀ k, k < a.length → ¬ y <+: (a ++ y ++ b).drop k) → SplitL y b ps → SplitL y (a ++ y ++ b) (a :: ps)
theorem chain_unique {x y : Str} {hi : Nat} : ∀ {a : Nat} {l l' : List Nat} {f f' : Nat}, ChainG x y hi a l f → (∀ k, f ≤ k → ¬ At x y hi k) → ChainG x y hi a l' f' → (∀ k, f' ≤ k → ¬ At x y hi k) → l = l'
  | a, [], [], _, _, _, _, _, _ => rfl
  | a, [], c :: r, f, f', h, hn, h', hn' => by
    have : f = a := h
    subst this
    exact absurd h'.2.1 (hn c h'.1)
  | a, c :: r, [], f, f', h, hn, h', hn' => by
    have : f' = a := h'
    subst this
    exact absurd h.2.1 (hn' c h.1)
  | a, c :: r, c' :: r', f, f', h, hn, h', hn' => by
    have e : c = c' := by
      rcases Nat.lt_trichotomy c c' with q | q | q
      · exact absurd h.2.1 (h'.2.2.1 c h.1 q)
      · exact q
      · exact absurd h'.2.1 (h.2.2.1 c' h'.1 q)
    subst e
    rw [chain_unique h.2.2.2 hn h'.2.2.2 hn']
theorem split_chain {x y : Str} (hy : 1 ≤ y.length) : ∀ {l ps}, SplitL y.cps.toList l ps → ∀ a, x.cps.toList.drop a = l → a ≤ x.length →
    ∃ cuts f, ChainG x y x.length a cuts f ∧ (∀ k, f ≤ k → ¬ At x y x.length k) ∧ partsFrom x y.length a cuts = ps.map mkS := by
  intro l ps h
  induction h with
  | @last l hn =>
    intro a ha hl
    refine ⟨[], a, rfl, fun k hk q => ?_, ?_⟩
    · have := (at_iff x y k hy).mp q
      refine hn (k - a) ?_
      rw [← ha, List.drop_drop, show a + (k - a) = k by omega]
      exact this
    · show [strSub x a x.length] = [mkS l]
      congr 1
      rw [← mkS_of (strSub x a x.length), strSub_toList, ha, List.take_of_length_le]
      rw [← ha, List.length_drop, len_list]
      exact Nat.le_refl _
  | @cut p b ps hn hs ih =>
    intro a ha hl
    have hlen : x.length = a + (p.length + y.length + b.length) := by
      have := congrArg List.length ha
      rw [List.length_drop, len_list] at this
      simp only [List.length_append, len_list] at this
      omega
    have hd : ∀ j, x.cps.toList.drop (a + j) = (p ++ y.cps.toList ++ b).drop j := fun j => by rw [← ha, List.drop_drop]
    obtain ⟨cuts, f, h1, h2, h3⟩ := ih (a + p.length + y.length) (by
      rw [Nat.add_assoc, hd, ← len_list y, ← List.length_append, List.drop_left]) (by omega)
    refine ⟨(a + p.length) :: cuts, f, ⟨by omega, (at_iff x y _ hy).mpr ?_, fun k h4 h5 q => ?_, h1⟩, h2, ?_⟩
    · rw [hd, List.append_assoc, List.drop_left]
      exact List.prefix_append _ _
    · have := (at_iff x y k hy).mp q
      rw [show k = a + (k - a) by omega, hd] at this
      exact hn (k - a) (by omega) this
    · show strSub x a (a + p.length) :: partsFrom x y.length (a + p.length + y.length) cuts = mkS p :: ps.map mkS
      rw [h3]
      congr 1
      rw [← mkS_of (strSub x a (a + p.length)), strSub_toList, ha, show a + p.length - a = p.length by omega, List.append_assoc, List.take_left]
theorem occ_of {x y : Str} {ps : List (List Nat)} (hy : 1 ≤ y.length) (h : SplitL y.cps.toList x.cps.toList ps) : partsBetween x (occurrences x y 0 x.length (x.length + 1)) y.length = ps.map mkS ∧ (occurrences x y 0 x.length (x.length + 1)).length + 1 = ps.length := by
  obtain ⟨cuts, f, h1, h2, h3⟩ := split_chain hy h 0 rfl (Nat.zero_le _)
  obtain ⟨f', h4, h5⟩ := occ_tight x y hy
  have e := chain_unique h1 h2 h4 h5
  rw [← e, partsBetween_eq]
  refine ⟨h3, ?_⟩
  have := congrArg List.length h3
  have hp : ∀ (cuts : List Nat) a, (partsFrom x y.length a cuts).length = cuts.length + 1 := by
    intro cuts
    induction cuts with
    | nil => intro a; rfl
    | cons c r ih => intro a; show (partsFrom x y.length (c + y.length) r).length + 1 = _; rw [ih]; rfl
  rw [hp, List.length_map] at this
  exact this
theorem SplitL.single {y l : List Nat} {p : List Nat} (h : SplitL y l [p]) : p = l := by
  cases h with
  | last _ => rfl
  | cut _ h => cases h
theorem SplitL.ne {y l : List Nat} {ps} (h : SplitL y l ps) : ps ≠ [] := by cases h <;> simp
theorem kind_pos (x : Str) : 1 ≤ Builtin.Str.strKind x := by
  unfold Builtin.Str.strKind
  split
  · exact Nat.le_refl _
  · split <;> decide
theorem split_of {x y : Str} {ps : List (List Nat)} (hy : 1 ≤ y.length) (hk : Builtin.Str.strKind y = 1) (h : SplitL y.cps.toList x.cps.toList ps) : Txt.split x y = ps.map mkS := by
  obtain ⟨h1, h2⟩ := occ_of hy h
  have one : ps.length = 1 → [x] = ps.map mkS := fun e => by
    obtain ⟨p, rfl⟩ := List.length_eq_one_iff.mp e
    rw [h.single]
    show [x] = [mkS _]
    rw [mkS_of]
  unfold Txt.split
  have hk2 : decide (Builtin.Str.strKind x < Builtin.Str.strKind y) = false := decide_eq_false (by rw [hk]; have := kind_pos x; omega)
  rw [hk2, Bool.or_false]
  by_cases hl : x.length < y.length
  · rw [if_pos (decide_eq_true hl)]
    refine one ?_
    have hxl := len_list x
    generalize x.cps.toList = X at h hxl
    cases h with
    | last _ => rfl
    | @cut a b ps _ _ =>
      simp only [List.length_append, len_list] at hxl
      omega
  · rw [if_neg (by simpa using hl)]
    by_cases he : (occurrences x y 0 x.length (x.length + 1)).isEmpty = true
    · rw [if_pos he]
      refine one ?_
      rw [List.isEmpty_iff.mp he] at h2
      simpa using h2.symm
    · rw [if_neg he, h1]
/-- the pieces with z between -/
noncomputable def glueL (z : List Nat) : List (List Nat) → List Nat
  | [] => []
  | [p] => p
  | p :: q :: r => p ++ z ++ glueL z (q :: r)
theorem glued_list (z : Str) : ∀ ps : List (List Nat), glued z (ps.map mkS) = mkS (glueL z.cps.toList ps) := by
  intro ps
  rw [glued_eq_join]
  induction ps with
  | nil => rfl
  | cons p r ih =>
    cases r with
    | nil => rfl
    | cons q r =>
      show mkS p ++ z ++ Str.join z (mkS q :: r.map mkS) = _
      have ih' : Str.join z (mkS q :: r.map mkS) = mkS (glueL z.cps.toList (q :: r)) := ih
      rw [ih', ← mkS_of (mkS p ++ z ++ mkS (glueL z.cps.toList (q :: r)))]
      congr 1
      show ((mkS p).cps ++ z.cps ++ (mkS (glueL z.cps.toList (q :: r))).cps).toList = _
      simp [mkS, glueL]
theorem replace_of {x y z : Str} {ps : List (List Nat)} (hy : 1 ≤ y.length) (h : SplitL y.cps.toList x.cps.toList ps) : Txt.replace x y z = mkS (glueL z.cps.toList ps) := by
  obtain ⟨h1, h2⟩ := occ_of hy h
  unfold Txt.replace
  have e0 : (y.length == 0 && z.length == 0) = false := by
    have : (y.length == 0) = false := by simp; omega
    rw [this]; rfl
  rw [e0, Bool.or_false]
  by_cases he : (occurrences x y 0 x.length (x.length + 1)).isEmpty = true
  · rw [if_pos he]
    rw [List.isEmpty_iff.mp he] at h2
    obtain ⟨p, rfl⟩ := List.length_eq_one_iff.mp (show ps.length = 1 by simpa using h2.symm)
    rw [h.single]
    show x = mkS _
    exact (mkS_of x).symm
  · rw [if_neg he, h1, glued_list]
theorem join_glue (z : Str) (ps : List (List Nat)) : Txt.join z (ps.map mkS) = mkS (glueL z.cps.toList ps) := glued_list z ps
-- find, startswith, endswith
theorem find_cases' (x y : Str) (i j : Nat) (hi : i ≤ x.length) (hj : j ≤ x.length) :
    (findAt x y i j = -1 ∧ ∀ k, i ≤ k → k + y.length ≤ j → ¬ y.cps.toList <+: x.cps.toList.drop k) ∨
    (∃ k : Nat, findAt x y i j = k ∧ i ≤ k ∧ k + y.length ≤ j ∧ y.cps.toList <+: x.cps.toList.drop k ∧ ∀ m, i ≤ m → m < k → ¬ (m + y.length ≤ j ∧ y.cps.toList <+: x.cps.toList.drop m)) := by
  have f1 : fromIndex x.length (i : Int) = i := by
    unfold fromIndex; rw [if_neg (by omega)]; omega
  have f2 : fromIndex x.length (j : Int) = j := by
    unfold fromIndex; rw [if_neg (by omega)]; omega
  unfold findAt
  rw [f1, f2, Nat.min_eq_left hj, occ_eq]
  rcases occ_first x y j 1 (Nat.le_refl _) (List.range' i (j + 1 - i)) i (fun k hk => (List.mem_range'_1.mp hk).1) with ⟨h0, hn⟩ | ⟨pre, a, post, e, h0, ha, hn⟩
  · left
    rw [h0]
    refine ⟨rfl, fun k h1 h2 h3 => hn k (List.mem_range'_1.mpr ⟨h1, by omega⟩) ⟨h2, (subAt_iff x y k).mpr h3⟩⟩
  · right
    have hmem : a ∈ List.range' i (j + 1 - i) := by rw [e]; simp
    have hia : i ≤ a := (List.mem_range'_1.mp hmem).1
    refine ⟨a, ?_, hia, ha.1, (subAt_iff x y a).mp ha.2, fun m h1 h2 h3 => ?_⟩
    · generalize (forIn (List.range' i (j + 1 - i)) ((#[] : Array Nat), i) (occBody x y j 1)).run.fst = L at h0
      obtain ⟨l⟩ := L
      cases l with
      | nil => simp at h0
      | cons b r => simp at h0; subst h0; rfl
    · have hm : m ∈ List.range' i (j + 1 - i) := List.mem_range'_1.mpr ⟨h1, by omega⟩
      rw [e] at hm
      have hs : (List.range' i (j + 1 - i)).Pairwise (· < ·) := List.pairwise_lt_range'
      rw [e] at hs
      rcases List.mem_append.mp hm with hm | hm
      · exact hn m hm ⟨h3.1, (subAt_iff x y m).mpr h3.2⟩
      · rcases List.mem_cons.mp hm with rfl | hm
        · omega
        · have := List.rel_of_pairwise_cons (List.pairwise_append.mp hs).2.1 hm
          omega
theorem starts_iff (x y : Str) : Txt.startswith x y = true ↔ y.cps.toList <+: x.cps.toList := by
  unfold Txt.startswith
  rw [Bool.and_eq_true, subAt_iff, List.drop_zero, decide_eq_true_eq]
  constructor
  · exact fun h => h.2
  · exact fun h => ⟨by have := h.length_le; rw [len_list, len_list] at this; omega, h⟩
theorem ends_iff (x y : Str) : Txt.endswith x y = true ↔ y.cps.toList <:+ x.cps.toList := by
  unfold Txt.endswith
  rw [Bool.and_eq_true, subAt_iff, decide_eq_true_eq]
  constructor
  · rintro ⟨h1, h2⟩
    have : y.cps.toList = x.cps.toList.drop (x.length - y.length) := List.IsPrefix.eq_of_length h2 (by rw [List.length_drop, len_list, len_list]; omega)
    rw [this]
    exact List.drop_suffix _ _
  · intro h
    have hl := h.length_le
    rw [len_list, len_list] at hl
    refine ⟨by omega, ?_⟩
    obtain ⟨t, ht⟩ := h
    rw [← ht, show x.length - y.length = t.length by
      have := congrArg List.length ht
      rw [List.length_append, len_list, len_list] at this; omega, List.drop_left]
    exact List.prefix_refl _
end Mine
-- G12
namespace Mine
open PySem.StrLaws PySem.Builtin.Str
/-- the pieces lie in the text one after the other, the first at its start, the last at its end -/
noncomputable def Mt : List (List Nat) → List Nat → Prop
  | [], _ => False
  | [w], g => g = w
  | w :: v :: r, g => ∃ x g', g = w ++ (x ++ g') ∧ Mt (v :: r) g'
noncomputable def Mid : List (List Nat) → List Nat → Prop
  | [], _ => True
  | w :: r, g => ∃ x g', g = x ++ (w ++ g') ∧ Mid r g'
theorem Mid.more : ∀ {ws : List (List Nat)} {g : List Nat} (y : List Nat), Mid ws g → Mid ws (y ++ g)
  | [], _, _, _ => trivial
  | w :: r, _, y, ⟨x, g', e, h⟩ => ⟨y ++ x, g', by rw [e]; simp, h⟩
theorem mt_mid : ∀ (mids : List (List Nat)) (w l g : List Nat), Mt (w :: (mids ++ [l])) g ↔ ∃ g', g = w ++ (g' ++ l) ∧ Mid mids g'
  | [], w, l, g => by
    constructor
    · rintro ⟨x, g', e, h⟩
      have h : g' = l := h
      exact ⟨x, by rw [e, h], trivial⟩
    · rintro ⟨g', e, _⟩
      exact ⟨g', l, e, rfl⟩
  | m :: r, w, l, g => by
    constructor
    · rintro ⟨x, g', e, h⟩
      obtain ⟨h', e', hm⟩ := (mt_mid r m l g').mp h
      exact ⟨x ++ (m ++ h'), by rw [e, e']; simp, x, h', rfl, hm⟩
    · rintro ⟨g', e, x, h', e', hm⟩
      exact ⟨x, m ++ (h' ++ l), by rw [e, e']; simp, (mt_mid r m l _).mpr ⟨h', rfl, hm⟩⟩
section
variable (got : Str)
abbrev G' : List Nat := got.cps.toList
theorem seg_split {s k n e : Nat} (h1 : s ≤ k) (h2 : k + n ≤ e) (y : List Nat) (hy : y.length = n) (h : y <+: (G' got).drop k) :
    ((G' got).take e).drop s = (((G' got).drop s).take (k - s)) ++ (y ++ ((G' got).take e).drop (k + n)) := by
  obtain ⟨t, ht⟩ := h
  have e1 : ((G' got).take e).drop s = ((G' got).drop s).take (e - s) := by rw [List.drop_take]
  have e2 : ((G' got).take e).drop (k + n) = ((G' got).drop (k + n)).take (e - (k + n)) := by rw [List.drop_take]
  rw [e1, e2]
  have e3 : (G' got).drop s = ((G' got).drop s).take (k - s) ++ (G' got).drop k := by
    have := List.take_append_drop (k - s) ((G' got).drop s)
    rw [List.drop_drop, show s + (k - s) = k by omega] at this
    exact this.symm
  have hk : ((G' got).drop s).length ≥ k - s ∨ (G' got).drop k = [] := by
    rw [List.length_drop]
    by_cases q : k ≤ (G' got).length
    · left; omega
    · right; exact List.drop_eq_nil_of_le (by omega)
  rw [← ht] at e3
  have e4 : (G' got).drop (k + n) = t := by rw [← List.drop_drop, ← ht, ← hy, List.drop_left]
  rw [e4]
  rcases hk with hk | hk
  · have hl : (((G' got).drop s).take (k - s)).length = k - s := by rw [List.length_take]; omega
    rw [e3, List.take_append, hl, show e - s - (k - s) = e - k by omega, List.take_append, hy, show e - k - n = e - (k + n) by omega]
    rw [List.take_of_length_le (l := ((G' got).drop s).take (k - s)) (by omega), List.take_of_length_le (l := y) (by omega)]
    rw [← e3]
  · rw [hk] at ht
    have hy0 : y = [] := by cases y; rfl; simp at ht
    have ht0 : t = [] := by subst hy0; simpa using ht
    subst hy0 ht0
    simp only [List.append_nil, List.nil_append] at e3 ⊢
    simp only [List.take_nil, List.append_nil]
    have : ((G' got).drop s).length ≤ k - s := by
      have := congrArg List.length e3
      rw [List.length_take] at this
      omega
    rw [List.take_of_length_le (by simp at hy; omega), List.take_of_length_le this]
theorem find_mid : ∀ (ws : List (List Nat)) (s e : Nat), s ≤ e → e ≤ got.length → (findAll got e (ws.map mkS) s = true ↔ Mid ws (((G' got).take e).drop s))
  | [], s, e, h1, h2 => by simp [findAll, Mid]
  | w :: r, s, e, h1, h2 => by
    have hw : (mkS w).cps.toList = w := rfl
    rw [List.map_cons, findAll]
    rcases find_cases' got (mkS w) s e (by omega) h2 with ⟨hf, hn⟩ | ⟨k, hf, k1, k2, k3, k4⟩
    · rw [hf, if_pos (by decide)]
      constructor
      · intro h; cases h
      · rintro ⟨x, g', e1, _⟩
        exfalso
        have hl := congrArg List.length e1
        have hgl : (G' got).length = got.length := len_list got
        simp only [List.length_append, List.length_drop, List.length_take, hgl] at hl
        refine hn (s + x.length) (by omega) (by rw [mkS_len]; omega) ?_
        rw [hw, ← List.drop_drop]
        have e2 : ((G' got).drop s).drop x.length = w ++ (g' ++ ((G' got).drop e)) := by
          have e3 : (G' got).drop s = ((G' got).take e).drop s ++ (G' got).drop e := by
            have : G' got = (G' got).take e ++ (G' got).drop e := (List.take_append_drop _ _).symm
            conv => lhs; rw [this]
            rw [List.drop_append_of_le_length (by rw [List.length_take, hgl]; omega)]
          rw [e3, e1]
          simp [List.append_assoc]
        rw [e2]
        exact List.prefix_append _ _
    · rw [mkS_len] at k2 k4
      rw [hw] at k3 k4
      rw [hf, if_neg (by omega), mkS_len, show ((k : Int) + (w.length : Int)) = ((k + w.length : Nat) : Int) by omega, find_mid r (k + w.length) e k2 h2]
      have hsp := seg_split got k1 k2 w rfl k3
      constructor
      · intro h
        exact ⟨_, _, hsp, h⟩
      · rintro ⟨x, g', e1, hm⟩
        have hgl : (G' got).length = got.length := len_list got
        have hl := congrArg List.length e1
        simp only [List.length_append, List.length_drop, List.length_take, hgl] at hl
        have hk : k ≤ s + x.length := by
          rcases Nat.lt_or_ge (s + x.length) k with q | q
          · exfalso
            refine k4 (s + x.length) (by omega) q ⟨by omega, ?_⟩
            rw [← List.drop_drop]
            have e3 : (G' got).drop s = ((G' got).take e).drop s ++ (G' got).drop e := by
              have : G' got = (G' got).take e ++ (G' got).drop e := (List.take_append_drop _ _).symm
              conv => lhs; rw [this]
              rw [List.drop_append_of_le_length (by rw [List.length_take, hgl]; omega)]
            rw [e3, e1]
            simp [List.append_assoc]
          · exact q
        have : ((G' got).take e).drop (k + w.length) = (((G' got).take e).drop (k + w.length)).take (s + x.length - k) ++ g' := by
          have e4 : (((G' got).take e).drop (k + w.length)).drop (s + x.length - k) = g' := by
            rw [List.drop_drop, show k + w.length + (s + x.length - k) = s + (x.length + w.length) by omega, ← List.drop_drop, e1, ← List.append_assoc, ← List.length_append, List.drop_left]
          conv => lhs; rw [← List.take_append_drop (s + x.length - k) (((G' got).take e).drop (k + w.length)), e4]
        rw [this]
        exact hm.more _
theorem ell_many (w l : List Nat) (mids : List (List Nat)) (hl : l ≠ []) : ell4 got ((w :: (mids ++ [l])).map mkS) = true ↔ Mt (w :: (mids ++ [l])) (G' got) := by
  rw [mt_mid]
  have hgl : (G' got).length = got.length := len_list got
  have hl0 : ¬ ((mkS l).length : Int) = 0 := by
    rw [mkS_len]
    have : l.length ≠ 0 := by simpa using hl
    omega
  -- the tail, from a start on
  have tail : ∀ (ws : List (List Nat)) (s : Nat), s ≤ got.length → (ell6 got ((ws ++ [l]).map mkS) s = true ↔ ∃ g', (G' got).drop s = g' ++ l ∧ Mid ws g') := by
    intro ws s hs
    have h1 : ((ws ++ [l]).map mkS).getLastD e0 = mkS l := by simp
    have h2 : ((ws ++ [l]).map mkS).dropLast = ws.map mkS := by simp
    unfold ell6
    rw [h1, h2, if_neg hl0]
    by_cases he : Txt.endswith got (mkS l) = true
    · rw [if_pos he]
      have hsuf : l <:+ G' got := (ends_iff got (mkS l)).mp he
      obtain ⟨t, ht⟩ := hsuf
      have htl : t.length + l.length = got.length := by rw [← hgl, ← ht, List.length_append]
      unfold ell8
      rw [mkS_len, show ((got.length : Int) - (l.length : Int)) = ((t.length : Nat) : Int) by omega]
      have htake : (G' got).take t.length = t := by rw [← ht, List.take_left]
      by_cases hlt : ((t.length : Nat) : Int) < (s : Int)
      · rw [if_pos hlt]
        constructor
        · intro h; cases h
        · rintro ⟨g', e, _⟩
          exfalso
          have := congrArg List.length e
          rw [List.length_drop, List.length_append, hgl] at this
          omega
      · rw [if_neg hlt, find_mid got ws s t.length (by omega) (by omega), htake]
        constructor
        · intro h
          exact ⟨t.drop s, by rw [← ht, List.drop_append_of_le_length (by omega)], h⟩
        · rintro ⟨g', e, h⟩
          rw [← ht, List.drop_append_of_le_length (by omega)] at e
          rw [List.append_cancel_right e]
          exact h
    · rw [if_neg he]
      constructor
      · intro h; cases h
      · rintro ⟨g', e, _⟩
        exfalso
        refine he ((ends_iff got (mkS l)).mpr ?_)
        exact List.IsSuffix.trans ⟨g', e.symm⟩ (List.drop_suffix _ _)
  unfold ell4
  rw [List.map_cons, show ((mkS w :: (mids ++ [l]).map mkS).headD e0) = mkS w from rfl, show ((mkS w :: (mids ++ [l]).map mkS).tail) = (mids ++ [l]).map mkS from rfl]
  by_cases hw : ((mkS w).length : Int) = 0
  · rw [if_pos hw]
    have hw0 : w = [] := by rw [mkS_len] at hw; simpa using hw
    subst hw0
    have := tail ([] :: mids) 0 (Nat.zero_le _)
    rw [List.cons_append, List.map_cons] at this
    rw [show ((0 : Nat) : Int) = 0 from rfl] at this
    rw [this, List.drop_zero]
    constructor
    · rintro ⟨g', e, x, g'', e2, h⟩
      exact ⟨g', by simpa using e, by rw [e2]; exact (h.more _).more _⟩
    · rintro ⟨g', e, h⟩
      exact ⟨g', by simpa using e, [], g', rfl, h⟩
  · rw [if_neg hw]
    by_cases hs : Txt.startswith got (mkS w) = true
    · rw [if_pos hs, mkS_len]
      obtain ⟨t, ht⟩ := (starts_iff got (mkS w)).mp hs
      have ht : w ++ t = G' got := ht
      have hwl : w.length ≤ got.length := by rw [← hgl, ← ht, List.length_append]; omega
      rw [tail mids w.length hwl, ← ht, List.drop_left]
      constructor
      · rintro ⟨g', e, h⟩
        exact ⟨g', by rw [e], h⟩
      · rintro ⟨g', e, h⟩
        exact ⟨g', List.append_cancel_left e, h⟩
    · rw [if_neg hs]
      constructor
      · intro h; cases h
      · rintro ⟨g', e, _⟩
        exfalso
        exact hs ((starts_iff got (mkS w)).mpr ⟨_, e.symm⟩)
end
theorem dots3_list : dots3.cps.toList = [46, 46, 46] := by decide +kernel
/-- the match, on lists -/
theorem ell_iff (want got : Str) (ps : List (List Nat)) (h : SplitL [46, 46, 46] want.cps.toList ps) (hl : ps.getLast h.ne ≠ []) : ellMatch want got = true ↔ Mt ps got.cps.toList := by
  have h' : SplitL dots3.cps.toList want.cps.toList ps := by rw [dots3_list]; exact h
  have hd1 : 1 ≤ dots3.length := by decide +kernel
  unfold ellMatch
  have found := found_iff want dots3
  by_cases hc : (occurrences want dots3 0 want.length 1).isEmpty = true
  · rw [if_pos hc]
    have hno : ∀ k, ¬ [46, 46, 46] <+: want.cps.toList.drop k := fun k hk => by
      rw [← dots3_list] at hk
      obtain ⟨a, b⟩ := (at_iff want dots3 k hd1).mpr hk
      have := found.mpr ⟨k, a, b⟩
      rw [hc] at this; cases this
    have hx : ps = [want.cps.toList] := by
      generalize want.cps.toList = X at h hno
      cases h with
      | last _ => rfl
      | @cut a b ps _ _ => exact absurd (by rw [List.append_assoc, List.drop_left]; exact List.prefix_append _ _) (hno a.length)
    rw [hx]
    show (want == got) = true ↔ got.cps.toList = want.cps.toList
    rw [beq_iff_eq]
    constructor
    · rintro rfl; rfl
    · intro e
      rw [← mkS_of want, ← mkS_of got, e]
  · rw [if_neg hc, split_of hd1 (by decide +kernel) h']
    have h2 : 2 ≤ ps.length := by
      obtain ⟨i, a, b⟩ := found.mp (by simpa using hc)
      have hp : [46, 46, 46] <+: want.cps.toList.drop i := by rw [← dots3_list]; exact (subAt_iff want dots3 i).mp b
      generalize want.cps.toList = X at h hp
      cases h with
      | last hn => exact absurd hp (hn i)
      | @cut a b ps _ hs => have := List.length_pos_iff.mpr hs.ne; simp; omega
    obtain ⟨w, r, rfl⟩ : ∃ w r, ps = w :: r := by
      cases ps with
      | nil => simp at h2
      | cons w r => exact ⟨w, r, rfl⟩
    have hr : r ≠ [] := fun e => by subst e; simp at h2
    obtain ⟨mids, l, rfl⟩ : ∃ mids l, r = mids ++ [l] := ⟨r.dropLast, r.getLast hr, (List.dropLast_concat_getLast hr).symm⟩
    have hg : (w :: (mids ++ [l])).getLast (by simp) = l := by
      rw [List.getLast_cons (by simp)]
      exact List.getLast_concat
    exact ell_many got w l mids (by rw [hg] at hl; exact hl)
end Mine
-- G13
namespace Mine
-- rows of dots and a sign, on lists
noncomputable def Sgn (l : List Nat) : Prop := l ≠ [] ∧ l.length ≤ 3 ∧ ∀ c ∈ l, c ≠ 46 ∧ c ≠ 10 ∧ c ≠ 13 ∧ c ≠ 35 ∧ c < 128
abbrev dts (n : Nat) : List Nat := List.replicate n 46
noncomputable def tailT (r : Nat) (sg : List Nat) : List Nat := dts r ++ (sg ++ [46, 13, 10])
noncomputable def rowL (n : Nat) (sg : List Nat) : List Nat := dts n ++ (sg ++ [46])
abbrev y3 : List Nat := [46, 46, 46]
noncomputable def addT (T : List Nat) : List (List Nat) → List (List Nat)
  | [] => [T]
  | h :: t => (T ++ h) :: t
noncomputable def pcs : List (Nat × List Nat) → List (List Nat)
  | [] => [[]]
  | (q, T) :: rest => List.replicate q [] ++ addT T (pcs rest)
noncomputable def qT (p : Nat × List Nat) : Nat × List Nat := (p.1 / 3, tailT (p.1 % 3) p.2)
/-- the mail of rows -/
noncomputable def mailL (rows : List (Nat × List Nat)) : List Nat := (rows.map fun p => rowL p.1 p.2 ++ [13, 10]).flatten
noncomputable def RG (z : List Nat) (rows : List (Nat × List Nat)) : List Nat := (rows.map fun p => (List.replicate p.1 z).flatten ++ p.2).flatten
noncomputable def RM : List (Nat × List Nat) → List Nat → Prop
  | [], g => g = []
  | (q, T) :: rest, g => ∃ X g', g = X ++ (T ++ g') ∧ (q = 0 → X = []) ∧ RM rest g'
theorem addT_ne (T : List Nat) (ps) : addT T ps ≠ [] := by cases ps <;> simp [addT]
theorem pcs_ne (rows) : pcs rows ≠ [] := by
  cases rows with
  | nil => simp [pcs]
  | cons p r => obtain ⟨q, T⟩ := p; simp [pcs, addT_ne]
-- the cut of a mail
theorem split_nil : SplitL y3 [] [[]] := .last fun k h => by simp at h
theorem split_char {c : Nat} {l : List Nat} {ps} (h : ¬ y3 <+: c :: l) (hs : SplitL y3 l ps) : SplitL y3 (c :: l) (addT [c] ps) := by
  cases hs with
  | last hn =>
    refine .last fun k => ?_
    cases k with
    | zero => exact h
    | succ k => exact hn k
  | @cut a b ps hn hs =>
    have : SplitL y3 ((c :: a) ++ y3 ++ b) ((c :: a) :: ps) := .cut (fun k hk => by
      cases k with
      | zero => exact h
      | succ k => exact hn k (by simpa using hk)) hs
    exact this
theorem addT_addT (a b : List Nat) (ps) : addT a (addT b ps) = addT (a ++ b) ps := by
  cases ps <;> simp [addT]
theorem addT_nil (ps) (h : ps ≠ []) : addT [] ps = ps := by
  cases ps with
  | nil => exact absurd rfl h
  | cons _ _ => rfl
theorem split_plain : ∀ {t l : List Nat} {ps}, (∀ c ∈ t, c ≠ 46) → SplitL y3 l ps → SplitL y3 (t ++ l) (addT t ps)
  | [], l, ps, _, h => by rw [addT_nil _ h.ne]; exact h
  | c :: t, l, ps, hc, h => by
    have h1 := split_plain (fun d hd => hc d (by simp [hd])) h (t := t)
    have h2 := split_char (c := c) (fun q => by
      obtain ⟨u, hu⟩ := q
      exact hc c (by simp) (List.cons.inj hu).1.symm) h1
    rw [addT_addT] at h2
    exact h2
theorem split_y {l : List Nat} {ps} (h : SplitL y3 l ps) : SplitL y3 (y3 ++ l) ([] :: ps) := by
  have : SplitL y3 ([] ++ y3 ++ l) ([] :: ps) := .cut (fun k hk => by simp at hk) h
  exact this
theorem split_ys : ∀ {q : Nat} {l : List Nat} {ps}, SplitL y3 l ps → SplitL y3 (dts (3 * q) ++ l) (List.replicate q [] ++ ps)
  | 0, _, _, h => h
  | q + 1, l, ps, h => by
    have := split_y (split_ys (q := q) h)
    have e : dts (3 * (q + 1)) ++ l = y3 ++ (dts (3 * q) ++ l) := by
      rw [show 3 * (q + 1) = 3 + 3 * q by omega, dts, ← List.replicate_append_replicate]
      rfl
    rw [e]
    exact this
theorem split_tail {r : Nat} {sg : List Nat} (hr : r < 3) (hs : Sgn sg) {l : List Nat} {ps} (h : SplitL y3 l ps) : SplitL y3 (tailT r sg ++ l) (addT (tailT r sg) ps) := by
  obtain ⟨hne, _, hc⟩ := hs
  have h1 : SplitL y3 ([13, 10] ++ l) (addT [13, 10] ps) := split_plain (by simp) h
  have h2 : SplitL y3 ([46, 13, 10] ++ l) (addT [46, 13, 10] ps) := by
    have := split_char (c := 46) (fun q => by obtain ⟨u, hu⟩ := q; simp at hu) h1
    rw [addT_addT] at this
    exact this
  have h3 : SplitL y3 ((sg ++ [46, 13, 10]) ++ l) (addT (sg ++ [46, 13, 10]) ps) := by
    have := split_plain (t := sg) (fun c q => (hc c q).1) h2
    rw [addT_addT, ← List.append_assoc] at this
    exact this
  obtain ⟨c, t, rfl⟩ : ∃ c t, sg = c :: t := by
    cases sg with
    | nil => exact absurd rfl hne
    | cons c t => exact ⟨c, t, rfl⟩
  have hc46 : c ≠ 46 := (hc c (by simp)).1
  have h4 : SplitL y3 (46 :: (((c :: t) ++ [46, 13, 10]) ++ l)) (addT [46] (addT ((c :: t) ++ [46, 13, 10]) ps)) := split_char (fun q => by obtain ⟨u, hu⟩ := q; simp at hu; exact hc46 hu.1.symm) h3
  have h5 : SplitL y3 (46 :: 46 :: (((c :: t) ++ [46, 13, 10]) ++ l)) (addT [46] (addT [46] (addT ((c :: t) ++ [46, 13, 10]) ps))) := split_char (fun q => by obtain ⟨u, hu⟩ := q; simp at hu; exact hc46 hu.1.symm) h4
  match r, hr with
  | 0, _ => exact h3
  | 1, _ => rw [addT_addT] at h4; exact h4
  | 2, _ => rw [addT_addT, addT_addT] at h5; exact h5
theorem row_parts (n : Nat) (sg : List Nat) : rowL n sg ++ [13, 10] = dts (3 * (n / 3)) ++ tailT (n % 3) sg := by
  unfold rowL tailT
  rw [← List.append_assoc, ← List.append_assoc]
  have : dts n = dts (3 * (n / 3)) ++ dts (n % 3) := by
    rw [dts, dts, dts, List.replicate_append_replicate, Nat.div_add_mod]
  rw [this]
  simp
theorem split_mail : ∀ (rows : List (Nat × List Nat)), (∀ p ∈ rows, Sgn p.2) → SplitL y3 (mailL rows) (pcs (rows.map qT))
  | [], _ => split_nil
  | (n, sg) :: rest, h => by
    have ih := split_mail rest fun p hp => h p (by simp [hp])
    have e : mailL ((n, sg) :: rest) = dts (3 * (n / 3)) ++ (tailT (n % 3) sg ++ mailL rest) := by
      show (rowL n sg ++ [13, 10]) ++ mailL rest = _
      rw [row_parts, List.append_assoc]
    rw [e]
    exact split_ys (split_tail (Nat.mod_lt _ (by decide)) (h (n, sg) (by simp)) ih)
-- the pieces with z between
theorem glue_addT (z T : List Nat) : ∀ ps, ps ≠ [] → glueL z (addT T ps) = T ++ glueL z ps
  | [], h => absurd rfl h
  | [h], _ => rfl
  | h :: v :: r, _ => by simp [addT, glueL]
theorem glue_nil (z : List Nat) : ∀ ps, ps ≠ [] → glueL z ([] :: ps) = z ++ glueL z ps
  | [], h => absurd rfl h
  | h :: r, _ => by simp [glueL]
theorem glue_nils (z : List Nat) : ∀ (q : Nat) ps, ps ≠ [] → glueL z (List.replicate q [] ++ ps) = (List.replicate q z).flatten ++ glueL z ps
  | 0, ps, _ => rfl
  | q + 1, ps, h => by
    rw [List.replicate_succ, List.cons_append, glue_nil z _ (by simp [h]), glue_nils z q ps h, List.replicate_succ, List.flatten_cons, List.append_assoc]
theorem glue_pcs (z : List Nat) : ∀ rows, glueL z (pcs rows) = RG z rows
  | [] => rfl
  | (q, T) :: rest => by
    rw [pcs, glue_nils z q _ (addT_ne _ _), glue_addT z T _ (pcs_ne _), glue_pcs z rest]
    simp [RG]
-- the match of the pieces
theorem mt_addT (T : List Nat) : ∀ ps g, ps ≠ [] → (Mt (addT T ps) g ↔ ∃ g', g = T ++ g' ∧ Mt ps g')
  | [], g, h => absurd rfl h
  | [h], g, _ => by
    constructor
    · intro e; exact ⟨h, e, rfl⟩
    · rintro ⟨g', e, e'⟩
      have e' : g' = h := e'
      subst e'; exact e
  | h :: v :: r, g, _ => by
    constructor
    · rintro ⟨x, g', e, m⟩
      exact ⟨h ++ (x ++ g'), by rw [e, List.append_assoc], x, g', rfl, m⟩
    · rintro ⟨g'', e, x, g', e', m⟩
      exact ⟨x, g', by rw [e, e', List.append_assoc], m⟩
theorem mt_nil (ps : List (List Nat)) (g : List Nat) (h : ps ≠ []) : Mt ([] :: ps) g ↔ ∃ x g', g = x ++ g' ∧ Mt ps g' := by
  cases ps with
  | nil => exact absurd rfl h
  | cons _ _ => exact Iff.rfl
theorem mt_nils (T : List Nat) (ps : List (List Nat)) (h : ps ≠ []) : ∀ (q : Nat) g, Mt (List.replicate q [] ++ addT T ps) g ↔ ∃ X g', g = X ++ (T ++ g') ∧ (q = 0 → X = []) ∧ Mt ps g'
  | 0, g => by
    rw [List.replicate_zero, List.nil_append, mt_addT T ps g h]
    constructor
    · rintro ⟨g', e, m⟩; exact ⟨[], g', e, fun _ => rfl, m⟩
    · rintro ⟨X, g', e, hx, m⟩
      rw [hx rfl] at e; exact ⟨g', e, m⟩
  | q + 1, g => by
    rw [List.replicate_succ, List.cons_append, mt_nil _ _ (by simp [addT_ne])]
    constructor
    · rintro ⟨x, g', e, m⟩
      obtain ⟨X, g'', e', _, m'⟩ := (mt_nils T ps h q g').mp m
      exact ⟨x ++ X, g'', by rw [e, e']; simp, fun hq => by omega, m'⟩
    · rintro ⟨X, g', e, _, m⟩
      refine ⟨X, T ++ g', e, (mt_nils T ps h q _).mpr ⟨[], g', rfl, fun _ => rfl, m⟩⟩
theorem mt_rm : ∀ rows g, Mt (pcs rows) g ↔ RM rows g
  | [], g => Iff.rfl
  | (q, T) :: rest, g => by
    rw [pcs, mt_nils T _ (pcs_ne _)]
    constructor
    · rintro ⟨X, g', e, hx, m⟩; exact ⟨X, g', e, hx, (mt_rm rest g').mp m⟩
    · rintro ⟨X, g', e, hx, m⟩; exact ⟨X, g', e, hx, (mt_rm rest g').mpr m⟩
theorem addT_last (T : List Nat) (hT : T ≠ []) : ∀ ps : List (List Nat), (ps = [[]] ∨ ∃ l, ps.getLast? = some l ∧ l ≠ []) → ∃ l, (addT T ps).getLast? = some l ∧ l ≠ []
  | [], _ => ⟨T, rfl, hT⟩
  | [a], _ => ⟨T ++ a, rfl, by simp [hT]⟩
  | a :: b :: t, h => by
    rcases h with h | ⟨l, h, h'⟩
    · simp at h
    · refine ⟨l, ?_, h'⟩
      show (((T ++ a) :: b :: t) : List (List Nat)).getLast? = some l
      rw [List.getLast?_cons_cons] at h ⊢
      exact h
theorem pcs_last : ∀ rows, (∀ p ∈ rows, p.2 ≠ []) → pcs rows = [[]] ∨ ∃ l, (pcs rows).getLast? = some l ∧ l ≠ []
  | [], _ => .inl rfl
  | (q, T) :: rest, hT => by
    obtain ⟨l, h1, h2⟩ := addT_last T (hT (q, T) (by simp)) (pcs rest) (pcs_last rest fun p hp => hT p (by simp [hp]))
    refine .inr ⟨l, ?_, h2⟩
    show (List.replicate q [] ++ addT T (pcs rest)).getLast? = some l
    rw [List.getLast?_append, h1]
    rfl
theorem pcs_last' (rows) (hne : rows ≠ []) (hT : ∀ p ∈ rows, p.2 ≠ []) (h : pcs rows ≠ []) : (pcs rows).getLast h ≠ [] := by
  obtain ⟨l, h1, h2⟩ : ∃ l, (pcs rows).getLast? = some l ∧ l ≠ [] := by
    cases rows with
    | nil => exact absurd rfl hne
    | cons p r =>
      obtain ⟨q, T⟩ := p
      obtain ⟨l, h1, h2⟩ := addT_last T (hT (q, T) (by simp)) (pcs r) (pcs_last r fun p hp => hT p (by simp [hp]))
      refine ⟨l, ?_, h2⟩
      show (List.replicate q [] ++ addT T (pcs r)).getLast? = some l
      rw [List.getLast?_append, h1]
      rfl
  rw [List.getLast?_eq_some_getLast h] at h1
  rw [Option.some.inj h1]
  exact h2
end Mine
-- G14
namespace Mine
/-- one row takes the other -/
noncomputable def fitRow (w o : Nat) : Bool := if 2 < w then decide (w % 3 ≤ o % 3) else w == o
noncomputable def fitsL : List Nat → List Nat → Bool
  | w :: ws, o :: os => fitRow w o && fitsL ws os
  | _, _ => true
theorem dts_add (a b : Nat) : dts (a + b) = dts a ++ dts b := by rw [dts, dts, dts, List.replicate_append_replicate]
/-- if it fits, it takes it, whatever stands for the dots -/
theorem fits_rm (z : List Nat) : ∀ (sgs : List (List Nat)) (ws os : List Nat), ws.length = sgs.length → os.length = sgs.length → fitsL ws os = true →
    RM ((ws.zip sgs).map qT) (RG z ((os.zip sgs).map qT))
  | [], [], [], _, _, _ => rfl
  | sg :: sgs, w :: ws, o :: os, h1, h2, h => by
    rw [fitsL, Bool.and_eq_true] at h
    have ih := fits_rm z sgs ws os (by simpa using h1) (by simpa using h2) h.2
    have hr := h.1
    have e : RG z (((o :: os).zip (sg :: sgs)).map qT) = (List.replicate (o / 3) z).flatten ++ (tailT (o % 3) sg ++ RG z ((os.zip sgs).map qT)) := by
      simp [RG, qT]
    rw [e]
    show ∃ X g', _ = X ++ (tailT (w % 3) sg ++ g') ∧ (w / 3 = 0 → X = []) ∧ RM ((ws.zip sgs).map qT) g'
    unfold fitRow at hr
    by_cases hw : 2 < w
    · rw [if_pos hw] at hr
      have hr := of_decide_eq_true hr
      refine ⟨(List.replicate (o / 3) z).flatten ++ dts (o % 3 - w % 3), _, ?_, fun q => by omega, ih⟩
      have : tailT (o % 3) sg = dts (o % 3 - w % 3) ++ tailT (w % 3) sg := by
        unfold tailT
        rw [← List.append_assoc (dts _) (dts _), ← dts_add, show o % 3 - w % 3 + w % 3 = o % 3 by omega]
      rw [this]
      simp
    · rw [if_neg hw] at hr
      have hr : w = o := by simpa using hr
      subst hr
      have h0 : w / 3 = 0 := by omega
      exact ⟨[], _, by rw [h0]; rfl, fun _ => rfl, ih⟩
  | [], _ :: _, _, h1, _, _ => by simp at h1
  | [], [], _ :: _, _, h2, _ => by simp at h2
  | _ :: _, [], _, h1, _, _ => by simp at h1
  | _ :: _, _ :: _, [], _, h2, _ => by simp at h2
-- the other way: a match of rows that have no feed within
theorem feed_split : ∀ {a c b d : List Nat}, 10 ∉ a → 10 ∉ c → a ++ 10 :: b = c ++ 10 :: d → a = c ∧ b = d
  | [], [], _, _, _, _, h => ⟨rfl, (List.cons.inj h).2⟩
  | [], x :: c, _, _, _, hc, h => by
    have := (List.cons.inj h).1
    exact absurd (by rw [this]; simp) hc
  | x :: a, [], _, _, ha, _, h => by
    have := (List.cons.inj h).1
    exact absurd (by rw [this]; simp) ha
  | x :: a, y :: c, b, d, ha, hc, h => by
    obtain ⟨e, h⟩ := List.cons.inj h
    obtain ⟨e2, e3⟩ := feed_split (fun q => ha (by simp [q])) (fun q => hc (by simp [q])) h
    exact ⟨by rw [e, e2], e3⟩
theorem tail_feed (r : Nat) (sg : List Nat) : tailT r sg = (dts r ++ (sg ++ [46, 13])) ++ [10] := by simp [tailT]
theorem tail_no {r : Nat} {sg : List Nat} (h : Sgn sg) : 10 ∉ dts r ++ (sg ++ [46, 13]) := by
  intro q
  simp only [List.mem_append, List.mem_cons, List.not_mem_nil, or_false] at q
  rcases q with q | q | q | q
  · have := List.eq_of_mem_replicate q; omega
  · exact (h.2.2 10 q).2.1 rfl
  · omega
  · omega
theorem count_tail {r : Nat} {sg : List Nat} (h : Sgn sg) : (tailT r sg).count 10 = 1 := by
  rw [tail_feed, List.count_append, List.count_eq_zero_of_not_mem (tail_no h)]
  rfl
theorem rm_count : ∀ (sgs : List (List Nat)) (ws : List Nat) (g : List Nat), (∀ s ∈ sgs, Sgn s) → ws.length = sgs.length → RM ((ws.zip sgs).map qT) g → sgs.length ≤ g.count 10
  | [], [], g, _, _, _ => Nat.zero_le _
  | sg :: sgs, w :: ws, g, hs, h1, ⟨X, g', e, _, hm⟩ => by
    have := rm_count sgs ws g' (fun s q => hs s (by simp [q])) (by simpa using h1) hm
    rw [e, List.count_append, List.count_append]
    have : (qT (w, sg)).2.count 10 = 1 := count_tail (hs sg (by simp))
    simp only [qT] at this
    simp only [List.length_cons]
    omega
  | [], _ :: _, _, _, h, _ => by simp at h
  | _ :: _, [], _, _, h, _ => by simp at h
theorem count_rg : ∀ (sgs : List (List Nat)) (os : List Nat), (∀ s ∈ sgs, Sgn s) → os.length = sgs.length → (RG [35] ((os.zip sgs).map qT)).count 10 = sgs.length
  | [], [], _, _ => rfl
  | sg :: sgs, o :: os, hs, h => by
    have ih := count_rg sgs os (fun s q => hs s (by simp [q])) (by simpa using h)
    have e : RG [35] (((o :: os).zip (sg :: sgs)).map qT) = (List.replicate (o / 3) [35]).flatten ++ (tailT (o % 3) sg ++ RG [35] ((os.zip sgs).map qT)) := by
      simp [RG, qT]
    rw [e, List.count_append, List.count_append, count_tail (hs sg (by simp)), ih]
    have : ((List.replicate (o / 3) [35]).flatten).count 10 = 0 := List.count_eq_zero_of_not_mem fun q => by
      simp only [List.mem_flatten, List.mem_replicate] at q
      obtain ⟨l, ⟨_, rfl⟩, q⟩ := q
      simp at q
    rw [this, List.length_cons]
    omega
  | [], _ :: _, _, h => by simp at h
  | _ :: _, [], _, h => by simp at h
theorem sharp (q : Nat) : (List.replicate q [35]).flatten = List.replicate q 35 := by
  induction q with
  | zero => rfl
  | succ q ih => rw [List.replicate_succ, List.flatten_cons, ih, List.replicate_succ]; rfl
theorem row_fits {w o : Nat} {X : List Nat} (hX : w / 3 = 0 → X = []) (e : X ++ dts (w % 3) = List.replicate (o / 3) 35 ++ dts (o % 3)) : fitRow w o = true := by
  unfold fitRow
  by_cases hw : 2 < w
  · rw [if_pos hw]
    refine decide_eq_true ?_
    rcases Nat.lt_or_ge (o % 3) (w % 3) with h | h
    · exfalso
      have : dts (w % 3) = dts (w % 3 - o % 3) ++ dts (o % 3) := by rw [← dts_add]; congr 1; omega
      rw [this, ← List.append_assoc] at e
      have e := List.append_cancel_right e
      have hm : 46 ∈ X ++ dts (w % 3 - o % 3) := by
        rw [List.mem_append]; right
        rw [dts, List.mem_replicate]; exact ⟨by omega, rfl⟩
      rw [e, List.mem_replicate] at hm
      omega
    · exact h
  · rw [if_neg hw]
    rw [hX (by omega), List.nil_append] at e
    have h0 : o / 3 = 0 := by
      cases h : o / 3 with
      | zero => rfl
      | succ k =>
        exfalso
        have : 35 ∈ dts (w % 3) := by rw [e, h, List.replicate_succ]; simp
        rw [dts, List.mem_replicate] at this
        omega
    rw [h0] at e
    have := congrArg List.length e
    simp at this
    rw [beq_iff_eq]
    omega
theorem rm_fits : ∀ (sgs : List (List Nat)) (ws os : List Nat), (∀ s ∈ sgs, Sgn s) → ws.length = sgs.length → os.length = sgs.length →
    RM ((ws.zip sgs).map qT) (RG [35] ((os.zip sgs).map qT)) → fitsL ws os = true
  | [], [], [], _, _, _, _ => rfl
  | sg :: sgs, w :: ws, o :: os, hs, h1, h2, ⟨X, g', e, hX, hm⟩ => by
    have hsg := hs sg (by simp)
    have hs' : ∀ s ∈ sgs, Sgn s := fun s q => hs s (by simp [q])
    have hc := count_rg (sg :: sgs) (o :: os) hs h2
    have hg := rm_count sgs ws g' hs' (by simpa using h1) hm
    have e1 : RG [35] (((o :: os).zip (sg :: sgs)).map qT) = List.replicate (o / 3) 35 ++ (tailT (o % 3) sg ++ RG [35] ((os.zip sgs).map qT)) := by
      rw [← sharp]; simp [RG, qT]
    have ec := hc
    rw [e, List.count_append, List.count_append] at ec
    have ct : (qT (w, sg)).2.count 10 = 1 := count_tail hsg
    have hX0 : X.count 10 = 0 := by
      simp only [qT] at ct ec
      simp only [List.length_cons] at ec
      omega
    have hXn : 10 ∉ X := List.count_eq_zero.mp hX0
    have e2 : X ++ (tailT (w % 3) sg ++ g') = List.replicate (o / 3) 35 ++ (tailT (o % 3) sg ++ RG [35] ((os.zip sgs).map qT)) := by rw [← e1, e]
    rw [tail_feed, tail_feed] at e2
    have e3 : (X ++ (dts (w % 3) ++ (sg ++ [46, 13]))) ++ 10 :: g' = (List.replicate (o / 3) 35 ++ (dts (o % 3) ++ (sg ++ [46, 13]))) ++ 10 :: RG [35] ((os.zip sgs).map qT) := by
      simpa using e2
    obtain ⟨e4, e5⟩ := feed_split (fun q => by
      rcases List.mem_append.mp q with q | q
      · exact hXn q
      · exact tail_no hsg q) (fun q => by
      rcases List.mem_append.mp q with q | q
      · have := List.eq_of_mem_replicate q; omega
      · exact tail_no hsg q) e3
    rw [← List.append_assoc X, ← List.append_assoc (List.replicate (o / 3) 35)] at e4
    rw [fitsL, row_fits hX (List.append_cancel_right e4), Bool.true_and]
    exact rm_fits sgs ws os hs' (by simpa using h1) (by simpa using h2) (e5 ▸ hm)
  | [], _ :: _, _, _, h, _, _ => by simp at h
  | [], [], _ :: _, _, _, h, _ => by simp at h
  | _ :: _, [], _, _, h, _, _ => by simp at h
  | _ :: _, _ :: _, [], _, _, h, _ => by simp at h
/-- the law of the match -/
theorem ell_fits {sgs : List (List Nat)} {ws os : List Nat} {want got : Str} {z : List Nat} (hne : sgs ≠ []) (hs : ∀ s ∈ sgs, Sgn s) (h1 : ws.length = sgs.length) (h2 : os.length = sgs.length)
    (hw : want.cps.toList = mailL (ws.zip sgs)) (hg : got.cps.toList = RG z ((os.zip sgs).map qT)) (hz : fitsL ws os = true ∨ z = [35]) : ellMatch want got = fitsL ws os := by
  have hrow : ∀ p ∈ ws.zip sgs, Sgn p.2 := fun p hp => hs _ (List.of_mem_zip hp).2
  have hsp := split_mail (ws.zip sgs) hrow
  rw [← hw] at hsp
  have hne2 : (ws.zip sgs).map qT ≠ [] := by
    cases sgs with
    | nil => exact absurd rfl hne
    | cons s r => cases ws with
      | nil => simp at h1
      | cons w ws => simp
  have key := ell_iff want got _ hsp (pcs_last' _ hne2 (fun p hp => by
    obtain ⟨q, _, rfl⟩ := List.mem_map.mp hp
    simp [qT, tailT]) _)
  rw [mt_rm, hg] at key
  rw [Bool.eq_iff_iff, key]
  constructor
  · intro h
    rcases hz with hz | rfl
    · exact hz
    · exact rm_fits sgs ws os hs h1 h2 h
  · intro h
    exact fits_rm z sgs ws os h1 h2 h
theorem replace_mail {sgs : List (List Nat)} {os : List Nat} {x z : Str} (hs : ∀ s ∈ sgs, Sgn s) (hx : x.cps.toList = mailL (os.zip sgs)) : (Txt.replace x dots3 z).cps.toList = RG z.cps.toList ((os.zip sgs).map qT) := by
  have hsp := split_mail (os.zip sgs) fun p hp => hs _ (List.of_mem_zip hp).2
  rw [← hx] at hsp
  have h' : SplitL dots3.cps.toList x.cps.toList (pcs ((os.zip sgs).map qT)) := by rw [dots3_list]; exact hsp
  rw [replace_of (by decide +kernel) h', mkS_list, glue_pcs]
end Mine
-- G15
namespace Mine
-- sending, on lists
noncomputable def isEnd (e : List Nat) : Prop := e = [10] ∨ e = [13] ∨ e = [13, 10]
noncomputable def mailE (rows : List ((Nat × List Nat) × List Nat)) : List Nat := (rows.map fun p => rowL p.1.1 p.1.2 ++ p.2).flatten
noncomputable def upN (n : Nat) : Nat := if n = 0 then 0 else n + 1
theorem rowL_plain {n : Nat} {sg : List Nat} (h : Sgn sg) : ∀ c ∈ rowL n sg, c ≠ 10 ∧ c ≠ 13 := fun c hc => by
  simp only [rowL, List.mem_append, List.mem_cons, List.not_mem_nil, or_false] at hc
  rcases hc with hc | hc | hc
  · have := List.eq_of_mem_replicate hc; omega
  · exact ⟨(h.2.2 c hc).2.1, (h.2.2 c hc).2.2.1⟩
  · omega
theorem rowL_head {n : Nat} {sg : List Nat} (h : Sgn sg) (rest : List Nat) : ∃ c t, rowL n sg ++ rest = c :: t ∧ c ≠ 10 := by
  obtain ⟨c, t, e⟩ : ∃ c t, rowL n sg = c :: t := by
    cases he : rowL n sg with
    | nil => simp [rowL] at he
    | cons c t => exact ⟨c, t, rfl⟩
  exact ⟨c, t ++ rest, by rw [e]; rfl, (rowL_plain h c (by rw [e]; simp)).1⟩
theorem normA_plain : ∀ (l rest : List Nat), (∀ c ∈ l, c ≠ 10 ∧ c ≠ 13) → normA false (l ++ rest) = l ++ normA false rest
  | [], _, _ => rfl
  | c :: l, rest, h => by
    obtain ⟨a, b⟩ := h c (by simp)
    rw [List.cons_append, normA, if_neg a, if_neg b, normA_plain l rest fun d hd => h d (by simp [hd])]
    rfl
theorem normA_end {e rest : List Nat} (he : isEnd e) (hr : rest = [] ∨ ∃ c t, rest = c :: t ∧ c ≠ 10) : normA false (e ++ rest) = [13, 10] ++ normA false rest := by
  have hb : normA true rest = normA false rest := by
    rcases hr with rfl | ⟨c, t, rfl, hc⟩
    · rfl
    · rw [normA, normA, if_neg hc, if_neg hc]
  rcases he with rfl | rfl | rfl
  · rfl
  · show 13 :: 10 :: normA true rest = _
    rw [hb]; rfl
  · rfl
theorem norm_mail : ∀ (rows : List ((Nat × List Nat) × List Nat)), (∀ p ∈ rows, Sgn p.1.2 ∧ isEnd p.2) → normA false (mailE rows) = mailL (rows.map (·.1))
  | [], _ => rfl
  | p :: rest, h => by
    obtain ⟨hs, he⟩ := h p (by simp)
    have ih := norm_mail rest fun q hq => h q (by simp [hq])
    have e1 : mailE (p :: rest) = rowL p.1.1 p.1.2 ++ (p.2 ++ mailE rest) := by
      show (rowL p.1.1 p.1.2 ++ p.2) ++ mailE rest = _
      rw [List.append_assoc]
    have hr : mailE rest = [] ∨ ∃ c t, mailE rest = c :: t ∧ c ≠ 10 := by
      cases rest with
      | nil => exact .inl rfl
      | cons q r =>
        obtain ⟨c, t, e, hc⟩ := rowL_head (n := q.1.1) (h q (by simp)).1 (q.2 ++ mailE r)
        refine .inr ⟨c, t, ?_, hc⟩
        rw [← e]
        show (rowL q.1.1 q.1.2 ++ q.2) ++ mailE r = _
        rw [List.append_assoc]
    rw [e1, normA_plain _ _ (rowL_plain hs), normA_end he hr, ih]
    show _ = (rowL p.1.1 p.1.2 ++ [13, 10]) ++ mailL (rest.map (·.1))
    rw [List.append_assoc]
theorem quoteA_plain : ∀ (l rest : List Nat), (∀ c ∈ l, c ≠ 10 ∧ c ≠ 13) → quoteA false (l ++ rest) = l ++ quoteA false rest
  | [], _, _ => rfl
  | c :: l, rest, h => by
    obtain ⟨a, b⟩ := h c (by simp)
    have : (c == 10) = false := by simpa using a
    rw [List.cons_append, quoteA, this, quoteA_plain l rest fun d hd => h d (by simp [hd])]
    rfl
theorem quote_row {n : Nat} {sg : List Nat} (h : Sgn sg) (rest : List Nat) : quoteA true (rowL n sg ++ ([13, 10] ++ rest)) = rowL (upN n) sg ++ ([13, 10] ++ quoteA true rest) := by
  have hp := rowL_plain (n := n) h
  cases n with
  | zero =>
    obtain ⟨hne, _, hc⟩ := h
    obtain ⟨c, t, rfl⟩ : ∃ c t, sg = c :: t := by
      cases sg with
      | nil => exact absurd rfl hne
      | cons c t => exact ⟨c, t, rfl⟩
    obtain ⟨a, b, _⟩ := hc c (by simp)
    have e1 : (c == 46) = false := by simpa using a
    have e2 : (c == 10) = false := by simpa using b
    have e : rowL 0 (c :: t) = c :: (t ++ [46]) := rfl
    rw [show upN 0 = 0 from rfl, e]
    rw [e] at hp
    rw [List.cons_append, quoteA, e1, e2, quoteA_plain _ _ fun d hd => hp d (by simp [hd])]
    rfl
  | succ n =>
    have e : ∀ m, rowL (m + 1) sg = 46 :: rowL m sg := fun m => by simp [rowL, dts, List.replicate_succ]
    rw [show upN (n + 1) = n + 1 + 1 from rfl, e (n + 1), e n]
    rw [e] at hp
    rw [List.cons_append, quoteA, show (46 == 10) = false from rfl, quoteA_plain _ _ fun d hd => hp d (by simp [hd])]
    rfl
theorem quote_mail : ∀ (rows : List (Nat × List Nat)), (∀ p ∈ rows, Sgn p.2) → quoteA true (mailL rows) = mailL (rows.map fun p => (upN p.1, p.2))
  | [], _ => rfl
  | p :: rest, h => by
    have ih := quote_mail rest fun q hq => h q (by simp [hq])
    have e1 : mailL (p :: rest) = rowL p.1 p.2 ++ ([13, 10] ++ mailL rest) := by
      show (rowL p.1 p.2 ++ [13, 10]) ++ mailL rest = _
      rw [List.append_assoc]
    rw [e1, quote_row (h p (by simp)), ih]
    show _ = (rowL (upN p.1) p.2 ++ [13, 10]) ++ mailL _
    rw [List.append_assoc]
-- the cut at the feeds
theorem split_rows : ∀ (rows : List (Nat × List Nat)), (∀ p ∈ rows, Sgn p.2) → SplitL [13, 10] (mailL rows) (rows.map (fun p => rowL p.1 p.2) ++ [[]])
  | [], _ => .last fun k h => by simp [mailL] at h
  | p :: rest, h => by
    have ih := split_rows rest fun q hq => h q (by simp [hq])
    refine .cut (fun k hk hp => ?_) ih
    obtain ⟨u, hu⟩ := hp
    have h1 : (rowL p.1 p.2 ++ [13, 10] ++ mailL rest)[k]? = some 13 := by
      have := congrArg (·[0]?) hu
      simp only [List.getElem?_drop, Nat.add_zero] at this
      exact this.symm
    rw [List.append_assoc, List.getElem?_append_left hk, List.getElem?_eq_getElem hk] at h1
    exact (rowL_plain (h p (by simp)) 13 (by rw [← Option.some.inj h1]; exact List.getElem_mem _)).2 rfl
noncomputable def rowsN (rows : List (Nat × List Nat)) : List Str := rows.map (fun p => mkS (rowL p.1 p.2)) ++ [e0]
theorem e0_mk : e0 = mkS [] := by decide +kernel
/-- a mail that is sent and cut -/
theorem sent (rows : List ((Nat × List Nat) × List Nat)) (h : ∀ p ∈ rows, Sgn p.1.2 ∧ isEnd p.2) (x : Str) (hx : x.cps.toList = mailE rows) : Txt.split (quoted x) crlfS = rowsN (rows.map fun p => (upN p.1.1, p.1.2)) := by
  have hs : ∀ p ∈ rows.map (·.1), Sgn p.2 := fun p hp => by
    obtain ⟨q, hq, rfl⟩ := List.mem_map.mp hp
    exact (h q hq).1
  have e : (quoted x).cps.toList = mailL (rows.map fun p => (upN p.1.1, p.1.2)) := by
    show quoteA true (normA false x.cps.toList) = _
    rw [hx, norm_mail rows h, quote_mail _ hs, List.map_map]
    rfl
  have hsp := split_rows (rows.map fun p => (upN p.1.1, p.1.2)) fun p hp => by
    obtain ⟨q, hq, rfl⟩ := List.mem_map.mp hp
    exact (h q hq).1
  rw [← e, ← crlf_list] at hsp
  rw [split_of (by decide +kernel) (by decide +kernel) hsp, List.map_append, List.map_map, rowsN, e0_mk]
  rfl
theorem sent_len (rows : List ((Nat × List Nat) × List Nat)) (h : ∀ p ∈ rows, Sgn p.1.2 ∧ isEnd p.2) (x : Str) (hx : x.cps.toList = mailE rows) : (Builtin.Str.partsBetween (quoted x) (Builtin.Str.occurrences (quoted x) crlfS 0 (quoted x).length ((quoted x).length + 1)) crlfS.length).length = rows.length + 1 := by
  have hs : ∀ p ∈ rows.map (·.1), Sgn p.2 := fun p hp => by
    obtain ⟨q, hq, rfl⟩ := List.mem_map.mp hp
    exact (h q hq).1
  have e : (quoted x).cps.toList = mailL (rows.map fun p => (upN p.1.1, p.1.2)) := by
    show quoteA true (normA false x.cps.toList) = _
    rw [hx, norm_mail rows h, quote_mail _ hs, List.map_map]
    rfl
  have hsp := split_rows (rows.map fun p => (upN p.1.1, p.1.2)) fun p hp => by
    obtain ⟨q, hq, rfl⟩ := List.mem_map.mp hp
    exact (h q hq).1
  rw [← e, ← crlf_list] at hsp
  rw [(occ_of (by decide +kernel) hsp).1]
  simp
-- taking a dot off
theorem take_row {n : Nat} {sg : List Nat} (h : Sgn sg) : (strTake (mkS (rowL n sg)) 1 == Str.ofString ".") = decide (0 < n) := by
  have hd : Str.ofString "." = mkS [46] := by decide +kernel
  rw [hd]
  cases n with
  | zero =>
    obtain ⟨hne, _, hc⟩ := h
    obtain ⟨c, t, rfl⟩ : ∃ c t, sg = c :: t := by
      cases sg with
      | nil => exact absurd rfl hne
      | cons c t => exact ⟨c, t, rfl⟩
    have a := (hc c (by simp)).1
    have : strTake (mkS (rowL 0 (c :: t))) 1 = mkS [c] := rfl
    rw [this]
    simp only [beq_eq_false_iff_ne, ne_eq, Nat.lt_irrefl, decide_false]
    intro e
    have := congrArg (fun x : Str => x.cps.toList) e
    simp only [mkS_list, List.cons.injEq, and_true] at this
    exact a this
  | succ n =>
    have : strTake (mkS (rowL (n + 1) sg)) 1 = mkS [46] := rfl
    rw [this]; simp
theorem take_e0 : (strTake e0 1 == Str.ofString ".") = false := by decide +kernel
theorem drop_row {n : Nat} {sg : List Nat} : strDrop (mkS (rowL (n + 1) sg)) 1 = mkS (rowL n sg) := rfl
end Mine
-- G16
namespace Mine
variable {w : World}
-- the data of the law
noncomputable def keyT : D → Int | .old x => (tokTab.lookup x).getD 0 | _ => 0
noncomputable def valT : D → Str | .old x => x | _ => e0
noncomputable def toksD : List D := tokTab.map fun q => .old q.1
noncomputable def signF : Int → Option Str := lkD keyT valT toksD
noncomputable def signL (m : Nat) : List Nat := ((signF ((24 + m : Nat) : Int)).getD e0).cps.toList
theorem sign_facts : ∀ m : Fin 28, signF ((24 + (m : Nat) : Nat) : Int) = some (mkS (signL m)) ∧ signL m ≠ [] ∧ (signL m).length ≤ 3 ∧ (signL m).all (fun c => c != 46 && c != 10 && c != 13 && c != 35 && decide (c < 128)) = true := by decide +kernel
theorem sign_dot : signF 23 = some (mkS [46]) := by decide +kernel
theorem sign_dots : signF 52 = some dots3 := by decide +kernel
theorem sign_ok {m : Nat} (h : m < 28) : Sgn (signL m) := by
  obtain ⟨_, h1, h2, h3⟩ := sign_facts ⟨m, h⟩
  refine ⟨h1, h2, fun c hc => ?_⟩
  have := List.all_eq_true.mp h3 c hc
  simpa [and_assoc] using this
theorem sign_at {m : Nat} (h : m < 28) : signF ((24 + m : Nat) : Int) = some (mkS (signL m)) := (sign_facts ⟨m, h⟩).1
theorem tok_keys : ∀ q ∈ tokTab, tokTab.lookup q.1 = some q.2 ∧ keyT (.old q.1) = q.2 := by decide +kernel
theorem tok_len : tokTab.length ≤ 100 := by decide +kernel
noncomputable def endL : Nat → List Nat
  | 0 => [10]
  | 1 => [13]
  | _ => [13, 10]
theorem endL_ok (e : Nat) : isEnd (endL e) := by
  match e with
  | 0 => exact .inl rfl
  | 1 => exact .inr (.inl rfl)
  | _ + 2 => exact .inr (.inr rfl)
noncomputable def intsD (l : List Nat) : List PyData := l.map fun (n : Nat) => .int (n : Int)
noncomputable def strsD (l : List (List Nat)) : List PyData := l.map fun x => .str (mkS x)
noncomputable def intOf : D → Nat | .d (.int i) => i.toNat | _ => 0
theorem comp_ints {β : Type} (l : List Nat) (f : D → β) (g : Nat → β) (h : ∀ n ∈ l, f (I (n : Int)) = g n) : ((((intsD l).map D.d).filter fun _ => true).map f) = l.map g := by
  rw [comp_all, intsD, List.map_map, List.map_map]
  exact List.map_congr_left h
theorem mem_ints {l : List Nat} {d : D} (h : d ∈ (intsD l).map D.d) : ∃ n ∈ l, d = I (n : Int) := by
  obtain ⟨x, hx, rfl⟩ := List.mem_map.mp h
  obtain ⟨n, hn, rfl⟩ := List.mem_map.mp hx
  exact ⟨n, hn, rfl⟩
section
variable {A : Around} {ns : List (Str × NameKind)} {σ : Sg}
theorem nat_mod (n k : Nat) (hk : k ≠ 0) : OP w A .Mod (I n) (I k) (I ((n % k : Nat) : Int)) := by
  have h := op_mod (w := w) (A := A) (n : Int) (k : Int) (by omega)
  rwa [Int.fmod_eq_emod_of_nonneg _ (by omega), ← Int.natCast_emod] at h
theorem nat_div (n k : Nat) (hk : k ≠ 0) (hk2 : k < 1073741824) : OP w A .FloorDiv (I n) (I k) (I ((n / k : Nat) : Int)) := by
  have h := op_fdiv (w := w) (A := A) (n : Int) (k : Int) (by omega) (PyProof.noPylong_small (by simpa using hk2))
  rwa [Int.fdiv_eq_ediv_of_nonneg _ (by omega), ← Int.natCast_ediv] at h
theorem nat_add (n k : Nat) : OP w A .Add (I n) (I k) (I ((n + k : Nat) : Int)) := by
  have h := op_add (w := w) (A := A) (n : Int) (k : Int)
  rwa [← Int.natCast_add] at h
theorem ee_toks {x : Str} {p : Pos} (hk : ns.lookup x = some .globalImplicit) (hx : x = Str.ofString "EXACT_TOKEN_TYPES") (hd : (x == ("__debug__" : Str)) = false := by decide) : EE w A ns σ (.Name x p) (.smap fun k => (tokTab.lookup k).map .int) := by
  subst hx
  refine ee_glob hk (fun h M G hM => ?_) hd
  obtain ⟨g, kvs, ep, h1, h2, h3, h4, h5⟩ := G.ex
  refine ⟨_, g, 32, _, rfl, fun q => absurd (hM 32 q) (by decide), by decide, h2, fun k => ?_⟩
  have := h4 k
  show match Option.map PyData.int (tokTab.lookup k) with | none => kvs.lookup k = none | some x => ∃ u, kvs.lookup k = some u ∧ Is M h x u
  cases ht : tokTab.lookup k with
  | none => rw [ht] at this; exact this
  | some i => rw [ht] at this; obtain ⟨t, e⟩ := this; exact ⟨_, e, @is_int M h i t⟩
end
/-- names and their data, behind the first five statements -/
noncomputable def σH (nums dots : List Nat) (sgs ends : List (List Nat)) : Sg := [(Str.ofString "ends", L (strsD ends)), (Str.ofString "stems", L (strsD (sgs.map (· ++ [46])))), (Str.ofString "dots", L (intsD dots)), (Str.ofString "signs", .tmap signF), (Str.ofString "numbers", L (intsD nums))]
theorem head_signs {A : Around} {nums : List Nat} : SE w A (fNames 69) [(Str.ofString "numbers", L (intsD nums))] [] (atS (fBody 69) 1) (.nx [(Str.ofString "signs", .tmap signF), (Str.ofString "numbers", L (intsD nums))] []) := by
  refine se_comp_cell (ce_tmap (ds := toksD) (fun d => [(Str.ofString "sign", d)]) [] keyT valT (iter_toks (by decide +kernel) (by decide +kernel)) (fun d hd => .name (.inl (by decide +kernel))) (fun d hd => ?_) (fun d hd => ?_) (by simp) (by kernel_rfl) rfl (by show (tokTab.map _).length ≤ _; rw [List.length_map]; exact Nat.le_trans tok_len (by decide))) (by decide +kernel) rfl
  · obtain ⟨q, hq, rfl⟩ := List.mem_map.mp hd
    obtain ⟨h1, h2⟩ := tok_keys q hq
    refine ee_cast (ee_sub (ee_toks (by decide +kernel) (by decide +kernel)) (ee_of_old (ee_name rfl)) (item_smap (k := q.1) (d := .int q.2) (by show (tokTab.lookup q.1).map PyData.int = _; rw [h1]; rfl))) ?_
    rw [h2]
  · obtain ⟨q, hq, rfl⟩ := List.mem_map.mp hd
    exact ee_name rfl
theorem head_dots {A : Around} {n4 : List Nat} {n5 : Nat} (hl : n4.length = 4) : SE w A (fNames 69) [(Str.ofString "signs", .tmap signF), (Str.ofString "numbers", L (intsD (n4 ++ [n5])))] [] (atS (fBody 69) 2) (.nx [(Str.ofString "dots", L (intsD (n4.map (· % 7)))), (Str.ofString "signs", .tmap signF), (Str.ofString "numbers", L (intsD (n4 ++ [n5])))] []) := by
  have hlen : (intsD (n4 ++ [n5])).length = 5 := by simp [intsD, hl]
  have ht : (intsD (n4 ++ [n5])).take 4 = intsD n4 := by
    rw [intsD, List.map_append, List.take_left' (by simp [hl])]; rfl
  have hit : ITER w A (fNames 69) [(Str.ofString "signs", .tmap signF), (Str.ofString "numbers", L (intsD (n4 ++ [n5])))] (match testOf (atS (fBody 69) 2) with | .ListComp _ [g] _ _ => g.iter | e => e) ((intsD n4).map .d) := by
    rw [← ht]
    exact iter_list (ee_slice_upto (k := 4) (ee_name rfl) (by rw [hlen]; decide))
  refine se_comp_cell (ce_cast (ce_list (ds := (intsD n4).map .d) (fun d => [(Str.ofString "x", d)]) (fun _ => true) (fun d => .int ((intOf d % 7 : Nat) : Int)) [] hit (fun d hd => .name (.inl (by decide +kernel))) (fun d hd => tts_nil) (fun d hd _ => ?_) (by simp) (by kernel_rfl) rfl (by simp only [List.length_map, intsD, hl]; decide)) ?_) (by decide +kernel) rfl
  · obtain ⟨n, hn, rfl⟩ := mem_ints hd
    exact ee_bin (ee_name rfl) ee_int (nat_mod n 7 (by decide))
  · refine congrArg L ?_
    rw [comp_ints n4 _ (fun n => .int ((n % 7 : Nat) : Int)) (fun n _ => rfl)]
    simp [intsD]
end Mine
-- G17
namespace Mine
variable {w : World}
theorem mkS_cat (a b : List Nat) : mkS a ++ mkS b = mkS (a ++ b) := by
  show Str.mk (a.toArray ++ b.toArray) = Str.mk (a ++ b).toArray
  congr 1
  apply Array.toList_inj.mp
  simp
noncomputable def iterOf : Expr → Expr | .ListComp _ [g] _ _ => g.iter | .DictComp _ _ [g] _ _ => g.iter | e => e
section
variable {A : Around} {n4 : List Nat} {n5 : Nat}
theorem iter_numbers {σ : Sg} {p q1 q2 q3 : Pos} {ck : Nat} (hl : n4.length = 4) (hσ : σ.lookup (Str.ofString "numbers") = some (L (intsD (n4 ++ [n5])))) : ITER w A (fNames 69) σ (.Subscript (.Name (Str.ofString "numbers") p) (.Slice none (some (.Constant (.int (4 : Nat)) ck q1)) none q2) q3) ((intsD n4).map .d) := by
  have hlen : (intsD (n4 ++ [n5])).length = 5 := by simp [intsD, hl]
  have ht : (intsD (n4 ++ [n5])).take 4 = intsD n4 := by
    rw [intsD, List.map_append, List.take_left' (by simp [hl])]; rfl
  rw [← ht]
  exact iter_list (ee_slice_upto (k := 4) (ee_name hσ) (by rw [hlen]; decide))
theorem head_stems (hl : n4.length = 4) {σ : Sg} (h1 : σ.lookup (Str.ofString "numbers") = some (L (intsD (n4 ++ [n5])))) (h2 : σ.lookup (Str.ofString "signs") = some (.tmap signF)) (hk : compOk (fNames 69) [(Str.ofString ".0", .local), (Str.ofString "x", .local), (Str.ofString "signs", .free)] (σ.map (·.1)) = true) :
    SE w A (fNames 69) σ [] (atS (fBody 69) 3) (.nx ((Str.ofString "stems", L (strsD (n4.map fun n => signL (n / 7 % 28) ++ [46]))) :: σ) []) := by
  refine se_comp (ce_cast (ce_list (ds := (intsD n4).map .d) (fun d => [(Str.ofString "x", d)]) (fun _ => true) (fun d => .str (mkS (signL (intOf d / 7 % 28) ++ [46]))) [(Str.ofString "signs", .tmap signF)] (iter_numbers hl h1) (fun d hd => .name (.inl (by decide +kernel))) (fun d hd => tts_nil) (fun d hd _ => ?_) ?_ ?_ rfl (by simp only [List.length_map, intsD, hl]; decide)) ?_) (by decide +kernel) rfl
  · obtain ⟨n, hn, rfl⟩ := mem_ints hd
    have hm : n / 7 % 28 < 28 := Nat.mod_lt _ (by decide)
    refine ee_cast (ee_bin (ee_of_old (ee_sub (ee_name rfl) (ee_bin ee_int (ee_bin (ee_bin (ee_name rfl) ee_int (nat_div n 7 (by decide) (by decide))) ee_int (nat_mod _ 28 (by decide))) (nat_add 24 _)) (item_tmap (sign_at hm)))) (ee_of_old (ee_sub (ee_name rfl) ee_int (item_tmap sign_dot))) (op_cat _ _ ?_)) ?_
    · rw [mkS_len, mkS_len]
      exact Nat.le_trans (Nat.add_le_add_right (sign_ok hm).2.1 _) (by decide)
    · rw [mkS_cat]; rfl
  · intro q hq
    obtain rfl := List.mem_singleton.mp hq
    exact ⟨by show (Str.ofString "signs", NameKind.free) ∈ _; decide +kernel, h2⟩
  · exact hk
  · refine congrArg L ?_
    rw [comp_ints n4 _ (fun n => .str (mkS (signL (n / 7 % 28) ++ [46]))) (fun n _ => rfl)]
    simp [strsD]
theorem head_ends (hl : n4.length = 4) {σ : Sg} (h1 : σ.lookup (Str.ofString "numbers") = some (L (intsD (n4 ++ [n5])))) (hk : compOk (fNames 69) [(Str.ofString ".0", .local), (Str.ofString "x", .local)] (σ.map (·.1)) = true) :
    SE w A (fNames 69) σ [] (atS (fBody 69) 4) (.nx ((Str.ofString "ends", L (strsD (n4.map fun n => endL (n / 196 % 3)))) :: σ) []) := by
  refine se_comp_cell (ce_cast (ce_list (ds := (intsD n4).map .d) (fun d => [(Str.ofString "x", d)]) (fun _ => true) (fun d => .str (mkS (endL (intOf d / 196 % 3)))) [] (iter_numbers hl h1) (fun d hd => .name (.inl (by decide +kernel))) (fun d hd => tts_nil) (fun d hd _ => ?_) (by simp) hk rfl (by simp only [List.length_map, intsD, hl]; decide)) ?_) (by decide +kernel) rfl
  · obtain ⟨n, hn, rfl⟩ := mem_ints hd
    have hm : n / 196 % 3 < 3 := Nat.mod_lt _ (by decide)
    refine ee_sub (ee_list (ds := [.str (Str.ofString "\n"), .str (Str.ofString "\x0d"), .str (Str.ofString "\x0d\n")]) (.cons ee_str (.cons ee_str (.cons ee_str .nil)))) (ee_bin (ee_bin (ee_name rfl) ee_int (nat_div n 196 (by decide) (by decide))) ee_int (nat_mod _ 3 (by decide))) (item_list (by omega) (by omega) ?_)
    rw [Int.toNat_natCast]
    show _ = some (PyData.str (mkS (endL (n / 196 % 3))))
    generalize n / 196 % 3 = m at hm
    have : m = 0 ∨ m = 1 ∨ m = 2 := by omega
    rcases this with rfl | rfl | rfl
    · exact congrArg (fun x => some (PyData.str x)) (by decide +kernel)
    · exact congrArg (fun x => some (PyData.str x)) (by decide +kernel)
    · exact congrArg (fun x => some (PyData.str x)) (by decide +kernel)
  · refine congrArg L ?_
    rw [comp_ints n4 _ (fun n => .str (mkS (endL (n / 196 % 3)))) (fun n _ => rfl)]
    simp [strsD]
end
-- rows
noncomputable def leadN (b a x : Nat) : Nat := if b < x then x - b + a else 0
theorem lead_nat (b a x : Nat) : lead (x : Int) b a = ((leadN b a x : Nat) : Int) := by
  unfold lead leadN
  by_cases h : b < x
  · rw [if_pos (by omega), if_pos h]; omega
  · rw [if_neg (by omega), if_neg h]; rfl
theorem mul_dots : ∀ n : Fin 11, Txt.mul (Str.ofString ".") ((n : Nat) : Int) = mkS (dts n) := by decide +kernel
theorem rowOf_mk {n : Nat} (h : n ≤ 10) (sg : List Nat) : rowOf (mkS (sg ++ [46])) (n : Int) = mkS (rowL n sg) := by
  unfold rowOf
  rw [mul_dots ⟨n, by omega⟩, mkS_cat]
  rfl
theorem four {α : Type} {l : List α} (h : l.length = 4) : ∃ a b c d, l = [a, b, c, d] := by
  match l, h with
  | [a, b, c, d], _ => exact ⟨a, b, c, d, rfl⟩
theorem rows_eq {dots : List Nat} {sgs : List (List Nat)} (hd : dots.length = 4) (hs : sgs.length = 4) (b a : Nat) (h : ∀ x ∈ dots, leadN b a x ≤ 10) : rowsOf (dots.map fun (n : Nat) => (n : Int)) (sgs.map fun s => mkS (s ++ [46])) b a = rowsN ((dots.map (leadN b a)).zip sgs) := by
  obtain ⟨d0, d1, d2, d3, rfl⟩ := four hd
  obtain ⟨s0, s1, s2, s3, rfl⟩ := four hs
  have e0 := rowOf_mk (h d0 (by simp)) s0
  have e1 := rowOf_mk (h d1 (by simp)) s1
  have e2 := rowOf_mk (h d2 (by simp)) s2
  have e3 := rowOf_mk (h d3 (by simp)) s3
  show [rowOf (mkS (s0 ++ [46])) (lead (d0 : Int) b a), rowOf (mkS (s1 ++ [46])) (lead (d1 : Int) b a), rowOf (mkS (s2 ++ [46])) (lead (d2 : Int) b a), rowOf (mkS (s3 ++ [46])) (lead (d3 : Int) b a), Str.ofString ""] = [mkS (rowL (leadN b a d0) s0), mkS (rowL (leadN b a d1) s1), mkS (rowL (leadN b a d2) s2), mkS (rowL (leadN b a d3) s3), Mine.e0]
  rw [lead_nat, lead_nat, lead_nat, lead_nat, e0, e1, e2, e3]
  rfl
-- deeds and words
noncomputable def deed (n : Nat) (c : Bool) : Nat := if c = true then upN n else n - 1
noncomputable def leadW (u : List Bool) (x : Nat) : Nat := u.foldl deed x
noncomputable def strW (u : List Bool) : Str := mkS (u.map fun c => if c = true then 40 else 41)
noncomputable def statesW : Nat → List (List Bool)
  | 0 => [[]]
  | i + 1 => (statesW i).flatMap fun u => [u ++ [true], u ++ [false]]
theorem statesW_len : ∀ (i : Nat) u, u ∈ statesW i → u.length = i
  | 0, u, h => by simp [statesW] at h; subst h; rfl
  | i + 1, u, h => by
    simp only [statesW, List.mem_flatMap] at h
    obtain ⟨v, hv, h⟩ := h
    have := statesW_len i v hv
    simp at h
    rcases h with rfl | rfl <;> simp [this]
theorem leadW_snoc (u : List Bool) (c : Bool) (x : Nat) : leadW (u ++ [c]) x = deed (leadW u x) c := by simp [leadW]
theorem deed_le (n : Nat) (c : Bool) : deed n c ≤ n + 1 := by
  unfold deed upN
  split
  · split <;> omega
  · omega
theorem leadW_le : ∀ (u : List Bool) (x : Nat), leadW u x ≤ x + u.length
  | [], x => Nat.le_refl _
  | c :: u, x => by
    have h1 := leadW_le u (deed x c)
    have h2 := deed_le x c
    show leadW u (deed x c) ≤ _
    simp only [List.length_cons]
    omega
theorem strW_snoc (u : List Bool) (c : Bool) : strW (u ++ [c]) = strW u ++ (if c = true then Str.ofString "(" else Str.ofString ")") := by
  have h1 : Str.ofString "(" = mkS [40] := by decide +kernel
  have h2 : Str.ofString ")" = mkS [41] := by decide +kernel
  rw [h1, h2]
  cases c
  · show mkS _ = mkS _ ++ mkS [41]
    rw [mkS_cat]; simp
  · show mkS _ = mkS _ ++ mkS [40]
    rw [mkS_cat]; simp
/-- the rows behind a run -/
noncomputable def rowsW (dots : List Nat) (sgs : List (List Nat)) (u : List Bool) : List Str := rowsN ((dots.map (leadW u)).zip sgs)
noncomputable def stateD (dots : List Nat) (sgs : List (List Nat)) (u : List Bool) : PyData := .tuple [.str (strW u), .list ((rowsW dots sgs u).map .str)]
theorem head_states {A : Around} {n : Nat} (hA : Dp (n + 1) A) {dots : List Nat} {sgs : List (List Nat)} (hd : dots.length = 4) (hs : sgs.length = 4) (h6 : ∀ x ∈ dots, x ≤ 6) (hsg : ∀ s ∈ sgs, Sgn s) {σ : Sg} (h1 : σ.lookup (Str.ofString "dots") = some (L (intsD dots))) (h2 : σ.lookup (Str.ofString "stems") = some (L (strsD (sgs.map (· ++ [46]))))) :
    SE w A (fNames 69) σ [] (atS (fBody 69) 5) (.nx ((Str.ofString "states", L ((statesW 0).map (stateD dots sgs))) :: σ) []) := by
  have hrow : rowsOf (dots.map fun (n : Nat) => (n : Int)) (sgs.map fun s => mkS (s ++ [46])) 0 0 = rowsW dots sgs [] := by
    have := rows_eq hd hs 0 0 (fun x hx => by have := h6 x hx; unfold leadN; split <;> omega)
    rw [show ((0 : Nat) : Int) = 0 from rfl] at this
    rw [this, rowsW]
    congr 2
    refine List.map_congr_left fun x _ => ?_
    show leadN 0 0 x = x
    unfold leadN; split <;> omega
  refine se_assign (ee_list (ds := [stateD dots sgs []]) (.cons (ee_tuple (ds := [.str (strW []), .list ((rowsW dots sgs []).map .str)]) (.cons (ee_cast ee_str ?_) (.cons (ee_cast (ee_fn (x := Str.ofString "_law_rows") (k := 68) (a := 101) (by decide +kernel) (by decide +kernel) (.cons (ee_cast (ee_name h1) ?_) (.cons (ee_cast (ee_name h2) ?_) (.cons ee_int (.cons ee_int .nil)))) (law_rows hA (dots.map fun (n : Nat) => (n : Int)) (sgs.map fun s => mkS (s ++ [46])) 0 0 (by simpa using hd) (by simpa using hs) ?_ ?_ (by decide) (by decide))) ?_) .nil))) .nil)) (by decide +kernel) rfl
  · exact congrArg S (by decide +kernel)
  · simp [intsD]
  · simp [strsD]
  · intro x hx
    obtain ⟨n, hn, rfl⟩ := List.mem_map.mp hx
    have := h6 n hn
    omega
  · intro x hx
    obtain ⟨s, hs', rfl⟩ := List.mem_map.mp hx
    have := (hsg s hs').2.1
    rw [mkS_len, List.length_append]
    exact Nat.le_trans (Nat.add_le_add_right this _) (by decide)
  · rw [hrow]
end Mine
-- G18
namespace Mine
variable {w : World}
/-- four rows with their ends -/
noncomputable def rowE (dots : List Nat) (sgs ends : List (List Nat)) (u : List Bool) : List ((Nat × List Nat) × List Nat) := ((dots.map (leadW u)).zip sgs).zip ends
theorem rowE_ok {dots : List Nat} {sgs ends : List (List Nat)} {u : List Bool} (hs : ∀ s ∈ sgs, Sgn s) (he : ∀ e ∈ ends, isEnd e) : ∀ p ∈ rowE dots sgs ends u, Sgn p.1.2 ∧ isEnd p.2 := fun p hp => by
  obtain ⟨h1, h2⟩ := List.of_mem_zip hp
  exact ⟨hs _ (List.of_mem_zip h1).2, he _ h2⟩
noncomputable def mailW (dots : List Nat) (sgs ends : List (List Nat)) (u : List Bool) : Str := mkS (mailE (rowE dots sgs ends u))
theorem end_len {e : List Nat} (h : isEnd e) : e.length ≤ 2 := by
  rcases h with rfl | rfl | rfl <;> decide
theorem rowL_len (n : Nat) (sg : List Nat) : (rowL n sg).length = n + (sg.length + 1) := by simp [rowL]
section
variable {A : Around} {d0 d1 d2 d3 : Nat} {s0 s1 s2 s3 f0 f1 f2 f3 : List Nat} {u : List Bool} {σ : Sg}
noncomputable def pieceD (d0 d1 d2 d3 : Nat) (s0 s1 s2 s3 f0 f1 f2 f3 : List Nat) (u : List Bool) : D → PyData
  | .d (.int 0) => .str (mkS (rowL (leadW u d0) s0 ++ f0))
  | .d (.int 1) => .str (mkS (rowL (leadW u d1) s1 ++ f1))
  | .d (.int 2) => .str (mkS (rowL (leadW u d2) s2 ++ f2))
  | _ => .str (mkS (rowL (leadW u d3) s3 ++ f3))
theorem mail_turn {n : Nat} (hb : ∀ x ∈ [d0, d1, d2, d3], leadW u x ≤ 10) (hs : ∀ s ∈ [s0, s1, s2, s3], Sgn s) (he : ∀ e ∈ [f0, f1, f2, f3], isEnd e)
    (h1 : σ.lookup (Str.ofString "rows") = some (L ((rowsW [d0, d1, d2, d3] [s0, s1, s2, s3] u).map .str))) (h2 : σ.lookup (Str.ofString "ends") = some (L (strsD [f0, f1, f2, f3]))) (hk : compOk (fNames 69) [(Str.ofString ".0", .local), (Str.ofString "j", .local), (Str.ofString "ends", .free), (Str.ofString "rows", .free)] (σ.map (·.1)) = true) :
    EE w A (fNames 69) σ (testOf (atS (inS (atS (inS (atS (fBody 69) 6)) 1)) 0)) (S (mailW [d0, d1, d2, d3] [s0, s1, s2, s3] [f0, f1, f2, f3] u)) := by
  have hsz : ∀ (x : Nat) (s f : List Nat), x ∈ [d0, d1, d2, d3] → s ∈ [s0, s1, s2, s3] → f ∈ [f0, f1, f2, f3] → (rowL (leadW u x) s).length ≤ 14 ∧ f.length ≤ 2 := fun x s f a b c => by
    have q1 := hb x a
    have q2 := (hs s b).2.1
    rw [rowL_len]
    exact ⟨by omega, end_len (he f c)⟩
  have hcat : ∀ (x : Nat) (s f : List Nat), x ∈ [d0, d1, d2, d3] → s ∈ [s0, s1, s2, s3] → f ∈ [f0, f1, f2, f3] → (mkS (rowL (leadW u x) s)).length + (mkS f).length ≤ sizeLine := fun x s f a b c => by
    obtain ⟨q1, q2⟩ := hsz x s f a b c
    rw [mkS_len, mkS_len]
    exact Nat.le_trans (Nat.add_le_add q1 q2) (by decide)
  have hlen5 : ((rowsW [d0, d1, d2, d3] [s0, s1, s2, s3] u).map PyData.str).length = 5 := rfl
  have hx := joinOk_flat [mkS (rowL (leadW u d0) s0 ++ f0), mkS (rowL (leadW u d1) s1 ++ f1), mkS (rowL (leadW u d2) s2 ++ f2), mkS (rowL (leadW u d3) s3 ++ f3)] (by
    simp only [flat, List.map_cons, List.map_nil, mkS_list, List.flatten_cons, List.flatten_nil, List.length_append, List.length_nil]
    have a0 := hsz d0 s0 f0 (by simp) (by simp) (by simp)
    have a1 := hsz d1 s1 f1 (by simp) (by simp) (by simp)
    have a2 := hsz d2 s2 f2 (by simp) (by simp) (by simp)
    have a3 := hsz d3 s3 f3 (by simp) (by simp) (by simp)
    have : sizeLine = 16777216 := rfl
    omega)
  refine ee_cast (ee_meth ee_str (.cons (ee_cast (ee_comp (ds := (List.range 4).map fun i : Nat => I i) (fun d => [(Str.ofString "j", d)]) (fun _ => true) (pieceD d0 d1 d2 d3 s0 s1 s2 s3 f0 f1 f2 f3 u) [(Str.ofString "rows", L ((rowsW [d0, d1, d2, d3] [s0, s1, s2, s3] u).map .str)), (Str.ofString "ends", L (strsD [f0, f1, f2, f3]))]
    (iter_range1 (n := 4) (by decide +kernel) (by decide +kernel) (ee_cast (ee_bin (ee_len_l (by decide +kernel) (by decide +kernel) (ee_name h1) (by rw [hlen5]; decide)) ee_int (op_sub _ 1)) (by rw [hlen5]; rfl)) (by decide)) (fun d hd => .name (.inl (by decide +kernel))) (fun d hd => tts_nil) (fun d hd _ => ?_) ?_ hk) ?_) .nil) (meth_join e0 [mkS (rowL (leadW u d0) s0 ++ f0), mkS (rowL (leadW u d1) s1 ++ f1), mkS (rowL (leadW u d2) s2 ++ f2), mkS (rowL (leadW u d3) s3 ++ f3)] hx)) ?_
  · obtain ⟨i, hi, rfl⟩ := mem_range_I hd
    have : i = 0 ∨ i = 1 ∨ i = 2 ∨ i = 3 := by omega
    rcases this with rfl | rfl | rfl | rfl
    · exact ee_cast (ee_bin (ee_sub (ee_name rfl) (ee_name rfl) (item_list (d := .str (mkS (rowL (leadW u d0) s0))) (by decide) (by decide) rfl)) (ee_sub (ee_name rfl) (ee_bin (ee_name rfl) ee_int (nat_mod 0 4 (by decide))) (item_list (d := .str (mkS f0)) (by decide) (by decide) rfl)) (op_cat _ _ (hcat d0 s0 f0 (by simp) (by simp) (by simp)))) (by rw [mkS_cat]; rfl)
    · exact ee_cast (ee_bin (ee_sub (ee_name rfl) (ee_name rfl) (item_list (d := .str (mkS (rowL (leadW u d1) s1))) (by decide) (by decide) rfl)) (ee_sub (ee_name rfl) (ee_bin (ee_name rfl) ee_int (nat_mod 1 4 (by decide))) (item_list (d := .str (mkS f1)) (by decide) (by decide) rfl)) (op_cat _ _ (hcat d1 s1 f1 (by simp) (by simp) (by simp)))) (by rw [mkS_cat]; rfl)
    · exact ee_cast (ee_bin (ee_sub (ee_name rfl) (ee_name rfl) (item_list (d := .str (mkS (rowL (leadW u d2) s2))) (by decide) (by decide) rfl)) (ee_sub (ee_name rfl) (ee_bin (ee_name rfl) ee_int (nat_mod 2 4 (by decide))) (item_list (d := .str (mkS f2)) (by decide) (by decide) rfl)) (op_cat _ _ (hcat d2 s2 f2 (by simp) (by simp) (by simp)))) (by rw [mkS_cat]; rfl)
    · exact ee_cast (ee_bin (ee_sub (ee_name rfl) (ee_name rfl) (item_list (d := .str (mkS (rowL (leadW u d3) s3))) (by decide) (by decide) rfl)) (ee_sub (ee_name rfl) (ee_bin (ee_name rfl) ee_int (nat_mod 3 4 (by decide))) (item_list (d := .str (mkS f3)) (by decide) (by decide) rfl)) (op_cat _ _ (hcat d3 s3 f3 (by simp) (by simp) (by simp)))) (by rw [mkS_cat]; rfl)
  · intro q hq
    simp only [List.mem_cons, List.not_mem_nil, or_false] at hq
    rcases hq with rfl | rfl
    · exact ⟨by show (Str.ofString "rows", NameKind.free) ∈ _; decide +kernel, h1⟩
    · exact ⟨by show (Str.ofString "ends", NameKind.free) ∈ _; decide +kernel, h2⟩
  · rfl
  · rw [join_flat]
    refine congrArg S (congrArg Str.mk ?_)
    apply Array.toList_inj.mp
    simp [flat, mkS_list, mailE, rowE]
theorem sent_rows (hs : ∀ s ∈ [s0, s1, s2, s3], Sgn s) (he : ∀ e ∈ [f0, f1, f2, f3], isEnd e) : Txt.split (quoted (mailW [d0, d1, d2, d3] [s0, s1, s2, s3] [f0, f1, f2, f3] u)) crlfS = rowsW [d0, d1, d2, d3] [s0, s1, s2, s3] (u ++ [true]) := by
  rw [sent _ (rowE_ok (dots := [d0, d1, d2, d3]) (u := u) hs he) _ rfl]
  unfold rowsW rowE
  congr 1
  simp only [List.map_cons, List.map_nil, List.zip_cons_cons, List.zip_nil_right, leadW_snoc]
  rfl
theorem mailW_len (hb : ∀ x ∈ [d0, d1, d2, d3], leadW u x ≤ 10) (hs : ∀ s ∈ [s0, s1, s2, s3], Sgn s) (he : ∀ e ∈ [f0, f1, f2, f3], isEnd e) : (mailW [d0, d1, d2, d3] [s0, s1, s2, s3] [f0, f1, f2, f3] u).length ≤ 100 := by
  unfold mailW
  rw [mkS_len]
  have a0 := hb d0 (by simp); have a1 := hb d1 (by simp); have a2 := hb d2 (by simp); have a3 := hb d3 (by simp)
  have b0 := (hs s0 (by simp)).2.1; have b1 := (hs s1 (by simp)).2.1; have b2 := (hs s2 (by simp)).2.1; have b3 := (hs s3 (by simp)).2.1
  have c0 := end_len (he f0 (by simp)); have c1 := end_len (he f1 (by simp)); have c2 := end_len (he f2 (by simp)); have c3 := end_len (he f3 (by simp))
  simp only [mailE, rowE, List.map_cons, List.map_nil, List.zip_cons_cons, List.zip_nil_right, List.flatten_cons, List.flatten_nil, List.length_append, List.length_nil, rowL_len]
  omega
theorem quoted_len (x : Str) : (quoted x).length ≤ 4 * x.length := by
  have h1 := norm_len false x.cps.toList
  have h2 := quote_len true (normA false x.cps.toList)
  show (quoteA true (normA false x.cps.toList)).toArray.size ≤ _
  rw [len_list] at h1
  simp
  omega
end
noncomputable def offD : D → PyData | .d (.str x) => .str (if (strTake x 1 == Str.ofString ".") = true then strDrop x 1 else x) | _ => .none
theorem off_row {n : Nat} {sg : List Nat} (h : Sgn sg) : offD (S (mkS (rowL n sg))) = .str (mkS (rowL (n - 1) sg)) := by
  show PyData.str (if (strTake (mkS (rowL n sg)) 1 == Str.ofString ".") = true then strDrop (mkS (rowL n sg)) 1 else mkS (rowL n sg)) = PyData.str (mkS (rowL (n - 1) sg))
  rw [take_row h]
  cases n with
  | zero => rfl
  | succ n => rfl
theorem off_zip : ∀ (ns : List Nat) (sgs : List (List Nat)), (∀ s ∈ sgs, Sgn s) → (((((ns.zip sgs).map fun p => mkS (rowL p.1 p.2)).map PyData.str).map D.d).map offD) = (((ns.map (· - 1)).zip sgs).map fun p => mkS (rowL p.1 p.2)).map PyData.str
  | [], _, _ => rfl
  | _ :: _, [], _ => rfl
  | n :: ns, s :: sgs, h => by
    simp only [List.zip_cons_cons, List.map_cons]
    rw [off_zip ns sgs fun t q => h t (by simp [q]), off_row (h s (by simp))]
theorem off_rows {dots : List Nat} {sgs : List (List Nat)} {u : List Bool} (hs : ∀ s ∈ sgs, Sgn s) : ((((rowsW dots sgs u).map PyData.str).map D.d).map offD) = (rowsW dots sgs (u ++ [false])).map PyData.str := by
  have e : (dots.map (leadW (u ++ [false]))) = (dots.map (leadW u)).map (· - 1) := by
    rw [List.map_map]
    exact List.map_congr_left fun x _ => by rw [leadW_snoc]; rfl
  unfold rowsW rowsN
  rw [e, List.map_append, List.map_append, List.map_append, off_zip _ _ hs, List.map_append]
  rfl
theorem off_turn {A : Around} {dots : List Nat} {sgs : List (List Nat)} {u : List Bool} {σ : Sg} (hd : dots.length = 4) (hl : sgs.length = 4) (hb : ∀ x ∈ dots, leadW u x ≤ 10) (hs : ∀ s ∈ sgs, Sgn s) {e1 : Expr} {p : Pos} {scope : Scope} {target : Expr}
    (h1 : σ.lookup (Str.ofString "rows") = some (L ((rowsW dots sgs u).map .str))) (hk : compOk (fNames 69) [(Str.ofString ".0", .local), (Str.ofString "row", .local)] (σ.map (·.1)) = true) :
    EE w A (fNames 69) σ (match atS (inS (atS (inS (atS (fBody 69) 6)) 1)) 2 with | .Expr (.Call _ [.Tuple [_, c] _ _] _ _) _ => c | _ => .Name (Str.ofString "") ⟨0, 0, 0, 0⟩) (L ((rowsW dots sgs (u ++ [false])).map .str)) := by
  have hlen : (rowsW dots sgs u).length = 5 := by simp [rowsW, rowsN, hd, hl]
  have hrl : ∀ x ∈ rowsW dots sgs u, x.length ≤ 20 := fun x hx => by
    unfold rowsW rowsN at hx
    rcases List.mem_append.mp hx with hx | hx
    · obtain ⟨p, hp, rfl⟩ := List.mem_map.mp hx
      obtain ⟨h1, h2⟩ := List.of_mem_zip hp
      obtain ⟨y, hy, e⟩ := List.mem_map.mp h1
      have := hb y hy
      have := (hs _ h2).2.1
      rw [mkS_len, rowL_len, ← e]
      omega
    · rw [List.mem_singleton.mp hx]; decide
  refine ee_cast (ee_comp (ds := ((rowsW dots sgs u).map .str).map .d) (fun d => [(Str.ofString "row", d)]) (fun _ => true) offD [] (iter_list (ee_name h1)) (fun d hd => .name (.inl (by decide +kernel))) (fun d hd => tts_nil) (fun d hd _ => ?_) (by simp) hk rfl (by rw [List.length_map, List.length_map, hlen]; decide)) ?_
  · obtain ⟨y, hy, rfl⟩ := List.mem_map.mp hd
    obtain ⟨x, hx, rfl⟩ := List.mem_map.mp hy
    have hxl := hrl x hx
    have ht : StrLaws.sliceText x none (some ((1 : Nat) : Int)) = strTake x 1 := sliceText_take1 x
    have htl : (strTake x 1).length ≤ sizeLine := by
      have : (strTake x 1).length ≤ 1 := by
        show (x.cps.toList.take 1).toArray.size ≤ 1
        simp; omega
      exact Nat.le_trans this (by decide)
    refine ee_cast (d := S (if (strTake x 1 == Str.ofString ".") = true then strDrop x 1 else x)) (ee_ifexp (c := (strTake x 1 == Str.ofString ".")) (tt_cmp (ee_cast (ee_str_upto (k := 1) (ee_name rfl) (by rw [ht]; exact htl)) (by rw [ht])) ee_str (cmp_eqs _ _)) (fun hc => ?_) (fun hc => ?_)) rfl
    · have hne : 1 ≤ x.length := by
        rcases Nat.eq_zero_or_pos x.length with h0 | h0
        · exfalso
          have : x = e0 := by
            rw [← mkS_of x, e0_mk]
            congr 1
            exact List.eq_nil_of_length_eq_zero (by rw [len_list]; exact h0)
          rw [this, take_e0] at hc
          cases hc
        · exact h0
      have hdr : StrLaws.sliceText x (some ((1 : Nat) : Int)) none = strDrop x 1 := sliceText_drop x 1 hne
      refine ee_cast (ee_str_from (k := 1) (ee_name rfl) (by
        rw [hdr]
        have : (strDrop x 1).length ≤ 20 := by
          show (x.cps.toList.drop 1).toArray.size ≤ 20
          have := len_list x
          simp at this ⊢; omega
        exact Nat.le_trans this (by decide))) ?_
      rw [hdr, if_pos hc]
    · rw [if_neg (by rw [hc]; decide)]
      exact ee_name rfl
  · rw [comp_all, off_rows hs]
end Mine
-- G19
namespace Mine
variable {w : World}
section
variable {A : Around} {nums : List Nat} {d0 d1 d2 d3 : Nat} {s0 s1 s2 s3 f0 f1 f2 f3 : List Nat}
/-- what holds of the data -/
structure Data (d0 d1 d2 d3 : Nat) (s0 s1 s2 s3 f0 f1 f2 f3 : List Nat) : Prop where
  d : ∀ x ∈ [d0, d1, d2, d3], x ≤ 6
  s : ∀ x ∈ [s0, s1, s2, s3], Sgn x
  e : ∀ x ∈ [f0, f1, f2, f3], isEnd x
noncomputable def σL (nums : List Nat) (d0 d1 d2 d3 : Nat) (s0 s1 s2 s3 f0 f1 f2 f3 : List Nat) (i : Nat) : Sg := (Str.ofString "states", L ((statesW i).map (stateD [d0, d1, d2, d3] [s0, s1, s2, s3]))) :: σH nums [d0, d1, d2, d3] [s0, s1, s2, s3] [f0, f1, f2, f3]
noncomputable def two (d0 d1 d2 d3 : Nat) (s0 s1 s2 s3 : List Nat) (u : List Bool) : List PyData := [stateD [d0, d1, d2, d3] [s0, s1, s2, s3] (u ++ [true]), stateD [d0, d1, d2, d3] [s0, s1, s2, s3] (u ++ [false])]
theorem lk_cons {σ : Sg} {n : Str} {d : D} {x : Str} {v : D} (h : σ.lookup x = some v) (hx : (x == n) = false) : (((n, d) :: σ) : Sg).lookup x = some v := by
  rw [List.lookup_cons, hx]; exact h
theorem state_turn (H : Data d0 d1 d2 d3 s0 s1 s2 s3 f0 f1 f2 f3) {n : Nat} (hA : Dp (n + 1) A) {i : Nat} (hi : i < 4) {u : List Bool} (hu : u.length = i) (acc : List PyData) (hacc : acc.length ≤ 100) {kd : D} :
    SX w A (fNames 69) ([(Str.ofString "run", S (strW u)), (Str.ofString "rows", L ((rowsW [d0, d1, d2, d3] [s0, s1, s2, s3] u).map .str))] ++ ((Str.ofString "k", kd) :: σL nums d0 d1 d2 d3 s0 s1 s2 s3 f0 f1 f2 f3 i)) [(Str.ofString "longer", acc)] (inS (atS (inS (atS (fBody 69) 6)) 1))
      (.nx ((Str.ofString "k", kd) :: σL nums d0 d1 d2 d3 s0 s1 s2 s3 f0 f1 f2 f3 i) [(Str.ofString "longer", acc ++ two d0 d1 d2 d3 s0 s1 s2 s3 u)]) := by
  have hb : ∀ x ∈ [d0, d1, d2, d3], leadW u x ≤ 10 := fun x hx => by
    have h1 := leadW_le u x
    have h2 := H.d x hx
    omega
  have hsl : sizeLine = 16777216 := rfl
  have hul : (strW u).length ≤ 4 := by
    show ((u.map fun c => if c = true then 40 else 41).toArray).size ≤ 4
    simp; omega
  have hml := mailW_len (u := u) hb H.s H.e
  have hql := quoted_len (mailW [d0, d1, d2, d3] [s0, s1, s2, s3] [f0, f1, f2, f3] u)
  have hpl := sent_len _ (rowE_ok (dots := [d0, d1, d2, d3]) (u := u) H.s H.e) (mailW [d0, d1, d2, d3] [s0, s1, s2, s3] [f0, f1, f2, f3] u) rfl
  refine sx_weak (sx_cons (se_assign (mail_turn (n := n) hb H.s H.e rfl rfl (by kernel_rfl)) (by decide +kernel) rfl) (sx_cons (se_append (d := stateD [d0, d1, d2, d3] [s0, s1, s2, s3] (u ++ [true])) (ds := acc) rfl
    (ee_tuple (ds := [.str (strW (u ++ [true])), .list ((rowsW [d0, d1, d2, d3] [s0, s1, s2, s3] (u ++ [true])).map .str)]) (.cons (ee_cast (ee_bin (ee_name rfl) ee_str (op_cat _ _ ?_)) ?_) (.cons (ee_cast (ee_meth (ee_fn (x := Str.ofString "quotedata") (k := 63) (a := 79) (by decide +kernel) (by decide +kernel) (.cons (ee_name rfl) .nil) (quotedata hA _ ?_)) (.cons ee_str .nil) (meth_split _ crlfS ?_ ?_ ?_)) ?_) .nil))) ?_)
    (sx_cons (se_append (d := stateD [d0, d1, d2, d3] [s0, s1, s2, s3] (u ++ [false])) (ds := acc ++ [stateD [d0, d1, d2, d3] [s0, s1, s2, s3] (u ++ [true])]) rfl
    (ee_tuple (ds := [.str (strW (u ++ [false])), .list ((rowsW [d0, d1, d2, d3] [s0, s1, s2, s3] (u ++ [false])).map .str)]) (.cons (ee_cast (ee_bin (ee_name rfl) ee_str (op_cat _ _ ?_)) ?_) (.cons (off_turn (e1 := .Name (Str.ofString "") ⟨0, 0, 0, 0⟩) (p := ⟨0, 0, 0, 0⟩) (scope := ⟨.function, [], false, false, []⟩) (target := .Name (Str.ofString "") ⟨0, 0, 0, 0⟩) rfl rfl hb H.s rfl (by kernel_rfl)) .nil))) ?_) sx_nil))) (sub.lk ?_) (fun x d h => ?_)
  · have : (strW u).length + (Str.ofString "(").length ≤ 4 + 1 := Nat.add_le_add hul (by decide)
    omega
  · rw [strW_snoc]; rfl
  · omega
  · decide
  · omega
  · have hc : crlfS = Str.ofString "\x0d\n" := rfl
    rw [hpl]; simp [rowE]; omega
  · rw [sent_rows H.s H.e]
  · omega
  · have : (strW u).length + (Str.ofString ")").length ≤ 4 + 1 := Nat.add_le_add hul (by decide)
    omega
  · rw [strW_snoc]; rfl
  · rw [List.length_append]; simp; omega
  · intro q hq
    simp only [σL, σH, List.mem_cons, List.not_mem_nil, or_false] at hq
    rcases hq with rfl | rfl | rfl | rfl | rfl | rfl | rfl <;> rfl
  · rw [show acc ++ two d0 d1 d2 d3 s0 s1 s2 s3 u = acc ++ [stateD [d0, d1, d2, d3] [s0, s1, s2, s3] (u ++ [true])] ++ [stateD [d0, d1, d2, d3] [s0, s1, s2, s3] (u ++ [false])] by simp [two]] at h
    refine subM.lk (fun q hq => ?_) x d h
    obtain rfl := List.mem_singleton.mp hq
    rfl
theorem statesW_num : ∀ i, (statesW i).length = 2 ^ i
  | 0 => rfl
  | i + 1 => by
    have h := statesW_num i
    have key : ∀ l : List (List Bool), (l.flatMap fun u => [u ++ [true], u ++ [false]]).length = 2 * l.length := by
      intro l
      induction l with
      | nil => rfl
      | cons a r ih => simp only [List.flatMap_cons, List.length_append, ih, List.length_cons, List.length_nil]; omega
    rw [statesW, key, h, Nat.pow_succ]; omega
theorem two_len (d0 d1 d2 d3 : Nat) (s0 s1 s2 s3 : List Nat) : ∀ l : List (List Bool), (l.flatMap (two d0 d1 d2 d3 s0 s1 s2 s3)).length = 2 * l.length
  | [] => rfl
  | a :: r => by
    rw [List.flatMap_cons, List.length_append, two_len _ _ _ _ _ _ _ _ r]
    simp [two]; omega
theorem two_map (d0 d1 d2 d3 : Nat) (s0 s1 s2 s3 : List Nat) : ∀ l : List (List Bool), (l.flatMap fun u => [u ++ [true], u ++ [false]]).map (stateD [d0, d1, d2, d3] [s0, s1, s2, s3]) = l.flatMap (two d0 d1 d2 d3 s0 s1 s2 s3)
  | [] => rfl
  | a :: r => by
    rw [List.flatMap_cons, List.map_append, two_map _ _ _ _ _ _ _ _ r, List.flatMap_cons]; rfl
noncomputable def betaS : D → Sg | .d (.tuple [a, b]) => [(Str.ofString "run", .d a), (Str.ofString "rows", .d b)] | _ => []
theorem state_loop (H : Data d0 d1 d2 d3 s0 s1 s2 s3 f0 f1 f2 f3) {n : Nat} (hA : Dp (n + 1) A) :
    SE w A (fNames 69) (σL nums d0 d1 d2 d3 s0 s1 s2 s3 f0 f1 f2 f3 0) [] (atS (fBody 69) 6) (.nx (σL nums d0 d1 d2 d3 s0 s1 s2 s3 f0 f1 f2 f3 4) []) := by
  have h4 : ((List.range 4).map fun i : Nat => I i).length = 4 := rfl
  have main := se_for (w := w) (A := A) (ns := fNames 69) (σ := σL nums d0 d1 d2 d3 s0 s1 s2 s3 f0 f1 f2 f3 0) (ms := []) (target := match atS (fBody 69) 6 with | .For t _ _ _ _ => t | _ => .Name (Str.ofString "") ⟨0, 0, 0, 0⟩) (iter := testOf (atS (fBody 69) 6)) (body := inS (atS (fBody 69) 6)) (pos := match atS (fBody 69) 6 with | .For _ _ _ _ p => p | _ => ⟨0, 0, 0, 0⟩) (ds := (List.range 4).map fun i : Nat => I i) (fun d => [(Str.ofString "k", d)]) (fun i => σL nums d0 d1 d2 d3 s0 s1 s2 s3 f0 f1 f2 f3 i) (fun _ => []) (iter_range1 (n := 4) (by decide +kernel) (by decide +kernel) ee_int (by decide)) (fun d hd => .name (by decide +kernel)) (fun _ _ _ _ _ => rfl) (fun _ _ h => h) (fun _ _ h => h) (fun i d hd => ?_)
  · exact main
  · obtain ⟨hlt, _⟩ := List.getElem?_eq_some_iff.mp hd
    rw [h4] at hlt
    refine sx_weak (sx_cons (se_new (x := Str.ofString "longer") (en_list (ds := []) .nil) (by decide +kernel) rfl rfl) (sx_cons (se_for (ds := ((statesW i).map (stateD [d0, d1, d2, d3] [s0, s1, s2, s3])).map .d) betaS (fun _ => (Str.ofString "k", d) :: σL nums d0 d1 d2 d3 s0 s1 s2 s3 f0 f1 f2 f3 i) (fun j => [(Str.ofString "longer", ((statesW i).take j).flatMap (two d0 d1 d2 d3 s0 s1 s2 s3))]) (iter_list (ee_name rfl)) (fun e he => ?_) (fun j e he q hq => ?_) (fun _ _ h => h) (fun _ _ h => h) (fun j e he => ?_))
      (sx_release (x := Str.ofString "longer") (ms' := []) rfl (fun _ _ h => by simp at h) (sx_cons (se_assign (x := Str.ofString "states") (ee_name rfl) (by decide +kernel) rfl) sx_nil)))) (fun x v h => ?_) (fun _ _ h => h)
    · obtain ⟨y, hy, rfl⟩ := List.mem_map.mp he
      obtain ⟨u, hu, rfl⟩ := List.mem_map.mp hy
      exact .pair (by decide +kernel) (by decide +kernel) (by decide)
    · obtain ⟨y, hy, rfl⟩ := List.mem_map.mp he
      obtain ⟨u, hu, rfl⟩ := List.mem_map.mp hy
      simp only [stateD, betaS, List.mem_cons, List.not_mem_nil, or_false] at hq
      rcases hq with rfl | rfl <;> rfl
    · have hj : j < (statesW i).length := by
        obtain ⟨a, _⟩ := List.getElem?_eq_some_iff.mp he
        simpa using a
      have hu : (statesW i)[j]? = some (statesW i)[j] := List.getElem?_eq_getElem hj
      have hed : e = .d (stateD [d0, d1, d2, d3] [s0, s1, s2, s3] (statesW i)[j]) := by
        rw [List.getElem?_map, List.getElem?_map, hu] at he
        simpa using he.symm
      subst hed
      have hlen := statesW_len i _ (List.getElem_mem hj)
      have hn := statesW_num i
      have hp : 2 ^ i ≤ 8 := Nat.le_trans (Nat.pow_le_pow_right (by decide) (show i ≤ 3 by omega)) (by decide)
      have ht : ((statesW i).take (j + 1)).flatMap (two d0 d1 d2 d3 s0 s1 s2 s3) = ((statesW i).take j).flatMap (two d0 d1 d2 d3 s0 s1 s2 s3) ++ two d0 d1 d2 d3 s0 s1 s2 s3 (statesW i)[j] := by
        rw [List.take_add_one, hu, List.flatMap_append]
        simp
      rw [ht]
      exact state_turn H hA hlt hlen _ (by rw [two_len, List.length_take]; omega)
    · have hst : (((statesW i).map (stateD [d0, d1, d2, d3] [s0, s1, s2, s3])).map D.d).length = (statesW i).length := by simp
      rw [hst, List.take_length, ← two_map]
      show List.lookup x ((Str.ofString "states", L (((statesW i).flatMap fun u => [u ++ [true], u ++ [false]]).map (stateD [d0, d1, d2, d3] [s0, s1, s2, s3]))) :: _) = some v
      have hs : σL nums d0 d1 d2 d3 s0 s1 s2 s3 f0 f1 f2 f3 (i + 1) = (Str.ofString "states", L (((statesW i).flatMap fun u => [u ++ [true], u ++ [false]]).map (stateD [d0, d1, d2, d3] [s0, s1, s2, s3]))) :: σH nums [d0, d1, d2, d3] [s0, s1, s2, s3] [f0, f1, f2, f3] := rfl
      rw [hs] at h
      refine (sub.lk ?_) x v h
      intro q hq
      simp only [σH, List.mem_cons, List.not_mem_nil, or_false] at hq
      rcases hq with rfl | rfl | rfl | rfl | rfl | rfl <;> rfl
end
end Mine
-- G20
namespace Mine
variable {w : World}
section
variable {A : Around} {n4 : List Nat} {n5 : Nat} {d0 d1 d2 d3 : Nat} {s0 s1 s2 s3 f0 f1 f2 f3 : List Nat}
noncomputable def keyS : D → Str | .d (.tuple [.str x, _]) => x | _ => e0
noncomputable def valS : D → PyData | .d (.tuple [_, y]) => y | _ => .none
noncomputable def betaL : D → Sg | .d (.tuple [a, b]) => [(Str.ofString "run", .d a), (Str.ofString "rows", .d b)] | _ => []
noncomputable def statesD (d0 d1 d2 d3 : Nat) (s0 s1 s2 s3 : List Nat) : List D := ((statesW 4).map (stateD [d0, d1, d2, d3] [s0, s1, s2, s3])).map .d
noncomputable def leftF (d0 d1 d2 d3 : Nat) (s0 s1 s2 s3 : List Nat) : Str → Option PyData := lkD keyS valS (statesD d0 d1 d2 d3 s0 s1 s2 s3)
theorem mem_states {d : D} (h : d ∈ statesD d0 d1 d2 d3 s0 s1 s2 s3) : ∃ u ∈ statesW 4, d = .d (stateD [d0, d1, d2, d3] [s0, s1, s2, s3] u) := by
  obtain ⟨y, hy, rfl⟩ := List.mem_map.mp h
  obtain ⟨u, hu, rfl⟩ := List.mem_map.mp hy
  exact ⟨u, hu, rfl⟩
theorem states_len : (statesD d0 d1 d2 d3 s0 s1 s2 s3).length = 16 := by simp [statesD, statesW_num]
theorem law_left {σ : Sg} (h1 : σ.lookup (Str.ofString "states") = some (L ((statesW 4).map (stateD [d0, d1, d2, d3] [s0, s1, s2, s3])))) (hk : compOk (fNames 69) [(Str.ofString ".0", .local), (Str.ofString "run", .local), (Str.ofString "rows", .local)] (σ.map (·.1)) = true) :
    SE w A (fNames 69) σ [] (atS (fBody 69) 7) (.nx ((Str.ofString "left", .smap (leftF d0 d1 d2 d3 s0 s1 s2 s3)) :: σ) []) := by
  refine se_comp_cell (ce_smap (ds := statesD d0 d1 d2 d3 s0 s1 s2 s3) betaL [] keyS valS (iter_list (ee_name h1)) (fun d hd => ?_) (fun d hd => ?_) (fun d hd => ?_) (by simp) hk rfl (by rw [states_len]; decide)) (by decide +kernel) rfl
  · obtain ⟨u, hu, rfl⟩ := mem_states hd
    exact .pair (.inl (by decide +kernel)) (.inl (by decide +kernel)) (by decide)
  · obtain ⟨u, hu, rfl⟩ := mem_states hd
    exact ee_name rfl
  · obtain ⟨u, hu, rfl⟩ := mem_states hd
    exact ee_name rfl
noncomputable def pairD (p : Nat × Nat) : PyData := .tuple [.int p.1, .int p.2]
noncomputable def p2P (d e : D) : Bool := (intOf e + intOf d) % 2 == 0
noncomputable def f2P (d e : D) : PyData := .tuple [.int (intOf d : Int), .int (intOf e : Int)]
noncomputable def ds2P (d : D) : List D := (List.range (5 - intOf d)).map fun i : Nat => I i
theorem pairs_flat : (((List.range 5).map fun i : Nat => I i).map fun d => ((ds2P d).filter (p2P d)).map (f2P d)).flatten = pairsL.map pairD := rfl
theorem pairs_lens : ∀ i : Fin 6, (((((List.range 5).map fun i : Nat => I i).take i).map fun d => ((ds2P d).filter (p2P d)).map (f2P d)).flatten).length ≤ 30 := by decide
theorem law_pairs {σ : Sg} (hk : compOk (fNames 69) [(Str.ofString ".0", .local), (Str.ofString "b", .local), (Str.ofString "a", .local), (Str.ofString "range", .globalImplicit)] (σ.map (·.1)) = true) :
    SE w A (fNames 69) σ [] (atS (fBody 69) 8) (.nx ((Str.ofString "pairs", L (pairsL.map pairD)) :: σ) []) := by
  refine se_comp (ce_cast (ce_list2 (ds := (List.range 5).map fun i : Nat => I i) (fun d => [(Str.ofString "b", d)]) ds2P (fun _ e => [(Str.ofString "a", e)]) p2P f2P 30 (iter_range1 (n := 5) (by decide +kernel) (by decide +kernel) ee_int (by decide)) (fun d hd => .name (.inl (by decide +kernel))) (fun d hd => ?_) (fun d hd e he => .name (.inl (by decide +kernel))) (fun d hd e he q hq => ?_) (fun d hd e he => ?_) (fun d hd e he hp => ?_) (fun x hx => ?_) (fun i => ?_) (fun d hd => ?_) (by decide) hk) (congrArg L pairs_flat)) (by decide +kernel) rfl
  · obtain ⟨i, hi, rfl⟩ := mem_range_I hd
    refine iter_range1 (n := 5 - i) (by decide +kernel) (by decide +kernel) (ee_cast (ee_bin ee_int (ee_name rfl) (op_sub 5 (i : Int))) ?_) (by omega)
    rw [show (5 : Int) - (i : Int) = ((5 - i : Nat) : Int) by omega]
  · obtain rfl := List.mem_singleton.mp hq
    show Str.ofString "b" ∉ [Str.ofString "a"]
    decide
  · obtain ⟨i, hi, rfl⟩ := mem_range_I hd
    obtain ⟨j, hj, rfl⟩ := mem_range_I he
    refine tts_one (tt_cast (tt_cmp (ee_bin (ee_bin (ee_name rfl) (ee_name rfl) (nat_add j i)) ee_int (nat_mod _ 2 (by decide))) ee_int (cmp_eqi _ 0)) ?_)
    show ((((j + i) % 2 : Nat) : Int) == 0) = ((j + i) % 2 == 0)
    rw [Bool.eq_iff_iff]
    simp only [beq_iff_eq]
    omega
  · obtain ⟨i, hi, rfl⟩ := mem_range_I hd
    obtain ⟨j, hj, rfl⟩ := mem_range_I he
    exact ee_tuple (ds := [.int (i : Int), .int (j : Int)]) (.cons (ee_name rfl) (.cons (ee_name rfl) .nil))
  · have : x = Str.ofString ".0" ∨ x = Str.ofString "b" ∨ x = Str.ofString "a" := by
      have hx' : (x, NameKind.local) ∈ [(Str.ofString ".0", NameKind.local), (Str.ofString "b", .local), (Str.ofString "a", .local), (Str.ofString "range", .globalImplicit)] ∨ (x, NameKind.cell) ∈ [(Str.ofString ".0", NameKind.local), (Str.ofString "b", .local), (Str.ofString "a", .local), (Str.ofString "range", .globalImplicit)] := hx
      simpa using hx'
    rcases this with rfl | rfl | rfl <;> exact .inl (by decide +kernel)
  · by_cases h : i < 6
    · exact pairs_lens ⟨i, h⟩
    · rw [List.take_of_length_le (by simp; omega)]
      exact pairs_lens 5
  · obtain ⟨i, hi, rfl⟩ := mem_range_I hd
    simp [ds2P]; omega
noncomputable def startI (n5 : Nat) : Int := 255 - ((n5 % 127 : Nat) : Int)
noncomputable def stopI (n5 : Nat) : Int := 1 + ((n5 % 128 : Nat) : Int)
noncomputable def nameI (n5 : Nat) : Int := 256 + (n5 : Int)
theorem law_three (hl : n4.length = 4) {σ : Sg} (h1 : σ.lookup (Str.ofString "numbers") = some (L (intsD (n4 ++ [n5])))) :
    SE w A (fNames 69) σ [] (atS (fBody 69) 9) (.nx ((Str.ofString "start", I (startI n5)) :: (Str.ofString "stop", I (stopI n5)) :: (Str.ofString "name", I (nameI n5)) :: σ) []) := by
  have hg : (intsD (n4 ++ [n5]))[(4 : Int).toNat]? = some (.int (n5 : Int)) := by
    show (intsD (n4 ++ [n5]))[4]? = _
    simp [intsD, hl]
  have hn : ∀ {p q pos : Pos} {ck : Nat}, EE w A (fNames 69) σ (.Subscript (.Name (Str.ofString "numbers") p) (.Constant (.int 4) ck q) pos) (I (n5 : Int)) := ee_sub (ee_name h1) ee_int (item_list (by decide) (by decide) hg)
  exact se_swap3 (ee_bin ee_int (ee_bin hn ee_int (nat_mod n5 127 (by decide))) (op_sub 255 _)) (ee_bin ee_int (ee_bin hn ee_int (nat_mod n5 128 (by decide))) (op_add 1 _)) (ee_bin ee_int hn (op_add 256 _)) (by decide +kernel) (by decide +kernel) (by decide +kernel) (by decide) (by decide) (by decide) rfl rfl rfl
noncomputable def keyI : D → Int | .d (.int i) => i | _ => 0
noncomputable def kindsF (n5 : Nat) : Int → Option Str := lkD keyI (fun d => kindOf (keyI d)) [I 0, I (startI n5), I (stopI n5), I (nameI n5)]
theorem lkD_fun {K X : Type} [DecidableEq K] (key : D → K) (g : K → X) (l : List D) (k : K) : lkD key (fun d => g (key d)) l k = if k ∈ l.map key then some (g k) else none := by
  unfold lkD
  have gen : ∀ (l : List D) (acc : Option X), (acc = none ∨ acc = some (g k)) → l.foldl (fun acc d => if k = key d then some (g (key d)) else acc) acc = if k ∈ l.map key then some (g k) else acc := by
    intro l
    induction l with
    | nil => intro acc _; simp
    | cons d r ih =>
      intro acc ha
      rw [List.foldl_cons]
      by_cases h : k = key d
      · rw [if_pos h, ← h, ih _ (.inr rfl)]
        simp [h]
      · rw [if_neg h, ih _ ha]
        simp [h]
  exact gen l none (.inl rfl)
theorem kinds_ok (n5 : Nat) : kindsF n5 0 = some (Str.ofString "end") ∧ kindsF n5 (startI n5) = some (Str.ofString "sign") ∧ kindsF n5 (stopI n5) = some (Str.ofString "sign") ∧ kindsF n5 (nameI n5) = some (Str.ofString "name") := by
  unfold kindsF
  have h1 : 129 ≤ startI n5 ∧ startI n5 ≤ 255 := by unfold startI; omega
  have h2 : 1 ≤ stopI n5 ∧ stopI n5 ≤ 128 := by unfold stopI; omega
  have h3 : 256 ≤ nameI n5 := by unfold nameI; omega
  refine ⟨?_, ?_, ?_, ?_⟩
  · rw [lkD_fun, if_pos (by simp [keyI])]; rfl
  · rw [lkD_fun, if_pos (by simp [keyI])]
    unfold kindOf; rw [if_neg (by omega), if_pos (by omega)]
  · rw [lkD_fun, if_pos (by simp [keyI])]
    unfold kindOf; rw [if_neg (by omega), if_pos (by omega)]
  · rw [lkD_fun, if_pos (by simp [keyI])]
    unfold kindOf; rw [if_neg (by omega), if_neg (by omega)]
theorem law_kinds {n : Nat} (hA : Dp (n + 2) A) {σ : Sg} (h1 : σ.lookup (Str.ofString "start") = some (I (startI n5))) (h2 : σ.lookup (Str.ofString "stop") = some (I (stopI n5))) (h3 : σ.lookup (Str.ofString "name") = some (I (nameI n5))) (hk : compOk (fNames 69) [(Str.ofString ".0", .local), (Str.ofString "symbol", .local), (Str.ofString "_law_kind", .globalImplicit)] (σ.map (·.1)) = true) :
    SE w A (fNames 69) σ [] (atS (fBody 69) 10) (.nx ((Str.ofString "kinds", .imap (kindsF n5)) :: σ) []) := by
  refine se_comp (ce_imap (ds := [I 0, I (startI n5), I (stopI n5), I (nameI n5)]) (fun d => [(Str.ofString "symbol", d)]) [] keyI (fun d => kindOf (keyI d)) (iter_display (.cons ee_int (.cons (ee_name h1) (.cons (ee_name h2) (.cons (ee_name h3) .nil))))) (fun d hd => .name (.inl (by decide +kernel))) (fun d hd => ?_) (fun d hd => ?_) (by simp) hk) (by decide +kernel) rfl
  · have : ∃ i, d = I i := by
      simp only [List.mem_cons, List.not_mem_nil, or_false] at hd
      rcases hd with rfl | rfl | rfl | rfl <;> exact ⟨_, rfl⟩
    obtain ⟨i, rfl⟩ := this
    exact ee_name rfl
  · have : ∃ i, d = I i := by
      simp only [List.mem_cons, List.not_mem_nil, or_false] at hd
      rcases hd with rfl | rfl | rfl | rfl <;> exact ⟨_, rfl⟩
    obtain ⟨i, rfl⟩ := this
    exact ee_fn (x := Str.ofString "_law_kind") (k := 66) (a := 89) (by decide +kernel) (by decide +kernel) (.cons (ee_name rfl) .nil) (law_kind hA i)
theorem law_lists {σ : Sg} (h1 : σ.lookup (Str.ofString "met") = none) (h2 : σ.lookup (Str.ofString "mails") = none) : SE w A (fNames 69) σ [] (atS (fBody 69) 11) (.nx σ [(Str.ofString "met", []), (Str.ofString "mails", [])]) :=
  se_swap_new (en_list (ds := []) .nil) (en_list (ds := []) .nil) (by decide +kernel) (by decide +kernel) (by decide) rfl rfl h1 h2
end
end Mine
-- G21
namespace Mine
variable {w : World}
section
variable {A : Around} {n4 : List Nat} {n5 : Nat} {d0 d1 d2 d3 : Nat} {s0 s1 s2 s3 f0 f1 f2 f3 : List Nat}
-- what the words say, and the runs
theorem words_say : (pairsL.all fun p => (wordsOf p.1 p.2).all fun word => (statesW 4).any fun u => strW u == word && (List.range 7).all fun x => leadW u x == leadN p.1 p.2 x) = true := by decide +kernel
theorem runs_apart : ((statesW 4).all fun u => (statesW 4).all fun v => !(strW u == strW v) || u == v) = true := by decide +kernel
noncomputable def metL : List Str := pairsL.flatMap fun p => wordsOf p.1 p.2
theorem met_perm : metL.Perm ((statesW 4).map strW) := List.isPerm_iff.mp (by decide +kernel)
theorem met_ok : (metL.all fun x => PyData.strOk x) = true ∧ metL.length = 16 := by decide +kernel
theorem runs_ok : ((statesW 4).all fun u => PyData.strOk (strW u)) = true := by decide +kernel
theorem words_lens : (pairsL.all fun p => decide ((wordsOf p.1 p.2).length ≤ 16)) = true := by decide +kernel
theorem pairs_small : ∀ p ∈ pairsL, p.1 + p.2 ≤ 4 := by decide
/-- the rows of a pair -/
noncomputable def rowsP (d0 d1 d2 d3 : Nat) (s0 s1 s2 s3 : List Nat) (p : Nat × Nat) : List Str := rowsN (([d0, d1, d2, d3].map (leadN p.1 p.2)).zip [s0, s1, s2, s3])
theorem lkD_at {K X : Type} [DecidableEq K] (key : D → K) (val : D → X) (k : K) (v : X) : ∀ (l : List D), (∀ d ∈ l, key d = k → val d = v) → (∃ d ∈ l, key d = k) → lkD key val l k = some v := fun l h1 h2 => by
  unfold lkD
  have gen : ∀ (l : List D) (acc : Option X), (∀ d ∈ l, key d = k → val d = v) → (acc = some v ∨ ∃ d ∈ l, key d = k) → l.foldl (fun acc d => if k = key d then some (val d) else acc) acc = some v := by
    intro l
    induction l with
    | nil =>
      intro acc _ h
      rcases h with h | ⟨d, h, _⟩
      · exact h
      · simp at h
    | cons d r ih =>
      intro acc h1 h
      rw [List.foldl_cons]
      by_cases hk : k = key d
      · rw [if_pos hk, h1 d (by simp) hk.symm]
        exact ih _ (fun e he => h1 e (by simp [he])) (.inl rfl)
      · rw [if_neg hk]
        refine ih _ (fun e he => h1 e (by simp [he])) ?_
        rcases h with h | ⟨e, he, q⟩
        · exact .inl h
        · rcases List.mem_cons.mp he with rfl | he
          · exact absurd q.symm hk
          · exact .inr ⟨e, he, q⟩
  exact gen l none h1 (.inr h2)
theorem left_at {u : List Bool} (hu : u ∈ statesW 4) : leftF d0 d1 d2 d3 s0 s1 s2 s3 (strW u) = some (.list ((rowsW [d0, d1, d2, d3] [s0, s1, s2, s3] u).map .str)) := by
  refine lkD_at _ _ _ _ _ (fun d hd hk => ?_) ⟨.d (stateD [d0, d1, d2, d3] [s0, s1, s2, s3] u), List.mem_map.mpr ⟨_, List.mem_map.mpr ⟨u, hu, rfl⟩, rfl⟩, rfl⟩
  obtain ⟨v, hv, rfl⟩ := mem_states hd
  have hk : strW v = strW u := hk
  have := List.all_eq_true.mp (List.all_eq_true.mp runs_apart v hv) u hu
  rw [hk] at this
  have e : v = u := by simpa using this
  subst e
  rfl
theorem left_word (h6 : ∀ x ∈ [d0, d1, d2, d3], x ≤ 6) {p : Nat × Nat} (hp : p ∈ pairsL) {word : Str} (hw : word ∈ wordsOf p.1 p.2) : leftF d0 d1 d2 d3 s0 s1 s2 s3 word = some (.list ((rowsP d0 d1 d2 d3 s0 s1 s2 s3 p).map .str)) := by
  have h1 := List.all_eq_true.mp (List.all_eq_true.mp words_say p hp) word hw
  obtain ⟨u, hu, h2⟩ := List.any_eq_true.mp h1
  rw [Bool.and_eq_true, beq_iff_eq] at h2
  obtain ⟨rfl, h3⟩ := h2
  rw [left_at hu]
  have e : [d0, d1, d2, d3].map (leadW u) = [d0, d1, d2, d3].map (leadN p.1 p.2) := List.map_congr_left fun x hx => by
    have := List.all_eq_true.mp h3 x (by have := h6 x hx; simp; omega)
    simpa using this
  unfold rowsP rowsW
  rw [e]
theorem leadN_le {b a x : Nat} (h : x ≤ 6) (hp : b + a ≤ 4) : leadN b a x ≤ 10 := by
  unfold leadN; split <;> omega
theorem rows_small {sgs : List (List Nat)} {ns : List Nat} (hs : ∀ s ∈ sgs, Sgn s) (hn : ∀ n ∈ ns, n ≤ 10) : ∀ x ∈ rowsN (ns.zip sgs), x.length ≤ 14 ∧ PyData.strOk x = true := fun x hx => by
  unfold rowsN at hx
  rcases List.mem_append.mp hx with hx | hx
  · obtain ⟨p, hp, rfl⟩ := List.mem_map.mp hx
    obtain ⟨h1, h2⟩ := List.of_mem_zip hp
    have a := hn _ h1
    have b := (hs _ h2).2.1
    refine ⟨by rw [mkS_len, rowL_len]; omega, ?_⟩
    unfold PyData.strOk
    rw [← Array.all_toList, mkS_list, List.all_eq_true]
    intro c hc
    simp only [rowL, List.mem_append, List.mem_cons, List.not_mem_nil, or_false] at hc
    rcases hc with hc | hc | hc
    · have := List.eq_of_mem_replicate hc; subst this; decide
    · have := ((hs _ h2).2.2 c hc).2.2.2.2; exact decide_eq_true (by omega)
    · subst hc; decide
  · rw [List.mem_singleton.mp hx]; exact ⟨by decide +kernel, by decide +kernel⟩
theorem rowsP_small (H : Data d0 d1 d2 d3 s0 s1 s2 s3 f0 f1 f2 f3) {p : Nat × Nat} (hp : p.1 + p.2 ≤ 4) : ∀ x ∈ rowsP d0 d1 d2 d3 s0 s1 s2 s3 p, x.length ≤ 14 ∧ PyData.strOk x = true := rows_small H.s fun n hn => by
  obtain ⟨x, hx, rfl⟩ := List.mem_map.mp hn
  exact leadN_le (H.d x hx) hp
noncomputable def mailP (d0 d1 d2 d3 : Nat) (s0 s1 s2 s3 : List Nat) (p : Nat × Nat) : Str := Txt.join crlfS (rowsP d0 d1 d2 d3 s0 s1 s2 s3 p)
theorem joinOk_crlf (H : Data d0 d1 d2 d3 s0 s1 s2 s3 f0 f1 f2 f3) {p : Nat × Nat} (hp : p.1 + p.2 ≤ 4) : JoinOk crlfS (rowsP d0 d1 d2 d3 s0 s1 s2 s3 p) = true := by
  have h := rowsP_small H hp
  have hlen : (rowsP d0 d1 d2 d3 s0 s1 s2 s3 p).length = 5 := rfl
  have key : ∀ (ys : List Str) (n : Nat), (∀ y ∈ ys, y.length ≤ 14) → (ys.foldl (fun (n : Nat) (p : Str) => n + p.length + crlfS.length) n) ≤ n + 16 * ys.length := by
    intro ys
    induction ys with
    | nil => intro n _; simp
    | cons y ys ih =>
      intro n hy
      rw [List.foldl_cons]
      have h1 := ih (n + y.length + crlfS.length) fun z hz => hy z (by simp [hz])
      have h2 := hy y (by simp)
      have h3 : crlfS.length = 2 := by decide +kernel
      simp only [List.length_cons]
      omega
  have k := key _ 0 fun y hy => (h y hy).1
  rw [hlen] at k
  unfold JoinOk
  show (!Builtin.Str.tooLong ((rowsP d0 d1 d2 d3 s0 s1 s2 s3 p).toArray.foldl (fun (n : Nat) (p : Str) => n + p.length + crlfS.length) 0)) = true
  rw [List.foldl_toArray']
  · unfold Builtin.Str.tooLong
    have : sizeLine = 16777216 := rfl
    simp; omega
  · rfl
-- the walk of the words
noncomputable def σM (n4 : List Nat) (n5 d0 d1 d2 d3 : Nat) (s0 s1 s2 s3 f0 f1 f2 f3 : List Nat) : Sg := (Str.ofString "kinds", .imap (kindsF n5)) :: (Str.ofString "start", I (startI n5)) :: (Str.ofString "stop", I (stopI n5)) :: (Str.ofString "name", I (nameI n5)) :: (Str.ofString "pairs", L (pairsL.map pairD)) :: (Str.ofString "left", .smap (leftF d0 d1 d2 d3 s0 s1 s2 s3)) :: σL (n4 ++ [n5]) d0 d1 d2 d3 s0 s1 s2 s3 f0 f1 f2 f3 4
noncomputable def mM (d0 d1 d2 d3 : Nat) (s0 s1 s2 s3 : List Nat) (i : Nat) : Ms := [(Str.ofString "met", ((pairsL.take i).flatMap fun p => wordsOf p.1 p.2).map .str), (Str.ofString "mails", ((pairsL.take i).map (mailP d0 d1 d2 d3 s0 s1 s2 s3)).map .str)]
theorem row_evc (start stop name : Int) : ∀ p ∈ pairsL, [PyData.int name] ++ (List.replicate p.1 [PyData.int stop, .int name]).flatten ++ (List.replicate p.2 [PyData.int start, .int name]).flatten ++ [.int 0] = ((rowC p.1 p.2).map (evc start stop name)).map .int := fun p hp => by
  have : p = (0, 0) ∨ p = (0, 2) ∨ p = (0, 4) ∨ p = (1, 1) ∨ p = (1, 3) ∨ p = (2, 0) ∨ p = (2, 2) ∨ p = (3, 1) ∨ p = (4, 0) := by simpa [pairsL] using hp
  rcases this with rfl | rfl | rfl | rfl | rfl | rfl | rfl | rfl | rfl <;> rfl
theorem no_filter {α : Type} (l : List α) : (l.filter fun _ => false) = [] := by
  induction l with
  | nil => rfl
  | cons a r ih => rw [List.filter_cons_of_neg (by decide)]; exact ih
theorem word_turn (H : Data d0 d1 d2 d3 s0 s1 s2 s3 f0 f1 f2 f3) {n : Nat} (hA : Dp (n + 1) A) {p : Nat × Nat} (hp : p ∈ pairsL) (met mails : List Str) (hm : met.length ≤ 100) (hm2 : mails.length ≤ 100) :
    SX w A (fNames 69) ([(Str.ofString "b", I (p.1 : Int)), (Str.ofString "a", I (p.2 : Int))] ++ σM n4 n5 d0 d1 d2 d3 s0 s1 s2 s3 f0 f1 f2 f3) [(Str.ofString "met", met.map .str), (Str.ofString "mails", mails.map .str)] (inS (atS (fBody 69) 12))
      (.nx (σM n4 n5 d0 d1 d2 d3 s0 s1 s2 s3 f0 f1 f2 f3) [(Str.ofString "met", (met ++ wordsOf p.1 p.2).map .str), (Str.ofString "mails", (mails ++ [mailP d0 d1 d2 d3 s0 s1 s2 s3 p]).map .str)]) := by
  have hp4 := pairs_small p hp
  have hsl : sizeLine = 16777216 := rfl
  have hwl : (wordsOf p.1 p.2).length ≤ 16 := by simpa using List.all_eq_true.mp words_lens p hp
  have hsm := rowsP_small H hp4
  have hrow : rowsOf ([d0, d1, d2, d3].map fun (n : Nat) => (n : Int)) ([s0, s1, s2, s3].map fun s => mkS (s ++ [46])) p.1 p.2 = rowsP d0 d1 d2 d3 s0 s1 s2 s3 p := rows_eq rfl rfl p.1 p.2 fun x hx => leadN_le (H.d x hx) hp4
  have hevc := row_evc (startI n5) (stopI n5) (nameI n5) p hp
  have hb4 : p.1 ≤ 4 := by omega
  have ha4 : p.2 ≤ 4 := by omega
  have frep : ∀ (k : Nat) (ds : List PyData), ((List.replicate k ds).flatten).length = k * ds.length := fun k ds => by simp
  have c1 : SE w A (fNames 69) ([(Str.ofString "b", I (p.1 : Int)), (Str.ofString "a", I (p.2 : Int))] ++ σM n4 n5 d0 d1 d2 d3 s0 s1 s2 s3 f0 f1 f2 f3) [(Str.ofString "met", met.map .str), (Str.ofString "mails", mails.map .str)] (atS (inS (atS (fBody 69) 12)) 0)
      (.nx ((Str.ofString "words", L ((wordsOf p.1 p.2).map .str)) :: ([(Str.ofString "b", I (p.1 : Int)), (Str.ofString "a", I (p.2 : Int))] ++ σM n4 n5 d0 d1 d2 d3 s0 s1 s2 s3 f0 f1 f2 f3)) [(Str.ofString "met", met.map .str), (Str.ofString "mails", mails.map .str)]) := by
    refine se_assign (ee_fn (x := Str.ofString "_law_words") (k := 67) (a := 96) (by decide +kernel) (by decide +kernel) (.cons (ee_cast (ee_bin (ee_bin (ee_bin (ee_list (ds := [.int (nameI n5)]) (.cons (ee_name rfl) .nil)) (ee_list_mul (ds := [.int (stopI n5), .int (nameI n5)]) (n := (p.1 : Int)) (.cons (ee_name rfl) (.cons (ee_name rfl) .nil)) (ee_name rfl) (by omega) (by omega) (by simp; omega) (by simp) (hsz := (by decide : 2 ≤ sizeLine))) (op_cat_list _ _ ?_)) (ee_list_mul (ds := [.int (startI n5), .int (nameI n5)]) (n := (p.2 : Int)) (.cons (ee_name rfl) (.cons (ee_name rfl) .nil)) (ee_name rfl) (by omega) (by omega) (by simp; omega) (by simp) (hsz := (by decide : 2 ≤ sizeLine))) (op_cat_list _ _ ?_)) (ee_list (ds := [.int 0]) (.cons ee_int .nil)) (op_cat_list _ _ ?_)) ?_)
      (.cons (ee_cast (ee_bin (ee_bin ee_int (ee_name rfl) (op_sub 4 (p.2 : Int))) (ee_name rfl) (op_sub _ (p.1 : Int))) ?_) (.cons (ee_name rfl) (.cons (ee_name rfl) (.cons (ee_name rfl) .nil))))) (law_words hA (start := startI n5) (stop := stopI n5) (name := nameI n5) (f := kindsF n5) (by unfold startI; omega) (by unfold stopI; omega) (by unfold nameI; omega) (kinds_ok n5) p.1 p.2 hp)) (by decide +kernel) rfl
    · rw [frep, Int.toNat_natCast]; simp; omega
    · rw [List.length_append, frep, frep, Int.toNat_natCast, Int.toNat_natCast]; simp; omega
    · rw [List.length_append, List.length_append, frep, frep, Int.toNat_natCast, Int.toNat_natCast]; simp; omega
    · rw [Int.toNat_natCast, Int.toNat_natCast, hevc]
    · rw [show (4 : Int) - (p.2 : Int) - (p.1 : Int) = ((4 - p.2 - p.1 : Nat) : Int) by omega]
  have c2 : SE w A (fNames 69) ((Str.ofString "words", L ((wordsOf p.1 p.2).map .str)) :: ([(Str.ofString "b", I (p.1 : Int)), (Str.ofString "a", I (p.2 : Int))] ++ σM n4 n5 d0 d1 d2 d3 s0 s1 s2 s3 f0 f1 f2 f3)) [(Str.ofString "met", met.map .str), (Str.ofString "mails", mails.map .str)] (atS (inS (atS (fBody 69) 12)) 1)
      (.nx ((Str.ofString "due", L ((rowsP d0 d1 d2 d3 s0 s1 s2 s3 p).map .str)) :: (Str.ofString "words", L ((wordsOf p.1 p.2).map .str)) :: ([(Str.ofString "b", I (p.1 : Int)), (Str.ofString "a", I (p.2 : Int))] ++ σM n4 n5 d0 d1 d2 d3 s0 s1 s2 s3 f0 f1 f2 f3)) [(Str.ofString "met", met.map .str), (Str.ofString "mails", mails.map .str)]) := by
    refine se_assign (ee_cast (ee_fn (x := Str.ofString "_law_rows") (k := 68) (a := 101) (by decide +kernel) (by decide +kernel) (.cons (ee_name (d := L (intsD [d0, d1, d2, d3])) rfl) (.cons (ee_name (d := L (strsD ([s0, s1, s2, s3].map (· ++ [46])))) rfl) (.cons (ee_name rfl) (.cons (ee_name rfl) .nil)))) (law_rows hA ([d0, d1, d2, d3].map fun (n : Nat) => (n : Int)) ([s0, s1, s2, s3].map fun s => mkS (s ++ [46])) p.1 p.2 rfl rfl (fun x hx => ?_) (fun x hx => ?_) (by omega) (by omega))) ?_) (by decide +kernel) rfl
    · obtain ⟨y, hy, rfl⟩ := List.mem_map.mp hx
      have := H.d y hy
      omega
    · obtain ⟨s, hs', rfl⟩ := List.mem_map.mp hx
      have := (H.s s hs').2.1
      rw [mkS_len, List.length_append]
      exact Nat.le_trans (Nat.add_le_add_right this _) (by decide)
    · rw [hrow]
  have c3 : SE w A (fNames 69) ((Str.ofString "due", L ((rowsP d0 d1 d2 d3 s0 s1 s2 s3 p).map .str)) :: (Str.ofString "words", L ((wordsOf p.1 p.2).map .str)) :: ([(Str.ofString "b", I (p.1 : Int)), (Str.ofString "a", I (p.2 : Int))] ++ σM n4 n5 d0 d1 d2 d3 s0 s1 s2 s3 f0 f1 f2 f3)) [(Str.ofString "met", met.map .str), (Str.ofString "mails", mails.map .str)] (atS (inS (atS (fBody 69) 12)) 2)
      (.nx ((Str.ofString "due", L ((rowsP d0 d1 d2 d3 s0 s1 s2 s3 p).map .str)) :: (Str.ofString "words", L ((wordsOf p.1 p.2).map .str)) :: ([(Str.ofString "b", I (p.1 : Int)), (Str.ofString "a", I (p.2 : Int))] ++ σM n4 n5 d0 d1 d2 d3 s0 s1 s2 s3 f0 f1 f2 f3)) [(Str.ofString "met", met.map .str), (Str.ofString "mails", mails.map .str)]) := by
    have hsh : SeqAt.shaped (.list ((rowsP d0 d1 d2 d3 s0 s1 s2 s3 p).map .str)) = true := shaped_strs fun x hx => (hsm x hx).2
    refine se_if (c := false) (tt_cast (tt_cmp (ee_cast (d' := L []) (ee_comp (ds := ((wordsOf p.1 p.2).map .str).map .d) (fun d => [(Str.ofString "word", d)]) (fun _ => false) pyOf [(Str.ofString "due", L ((rowsP d0 d1 d2 d3 s0 s1 s2 s3 p).map .str)), (Str.ofString "left", .smap (leftF d0 d1 d2 d3 s0 s1 s2 s3))] (iter_list (ee_name rfl)) (fun d hd => .name (.inl (by decide +kernel))) (fun d hd => ?_) (fun d hd h => by cases h) ?_ (by kernel_rfl) rfl (by rw [List.length_map, List.length_map]; omega)) (by rw [no_filter]; rfl)) (ee_list (ds := []) .nil) (cmp_ned (.list []) (.list []) rfl rfl)) rfl) (fun h => by cases h) (fun _ => sx_nil)
    · obtain ⟨y, hy, rfl⟩ := List.mem_map.mp hd
      obtain ⟨x, hx, rfl⟩ := List.mem_map.mp hy
      refine tts_one (tt_cast (tt_cmp (ee_cast (ee_meth (ee_name rfl) (.cons (ee_name rfl) .nil) (meth_get _ x)) ?_) (ee_name rfl) (cmp_ned _ _ hsh hsh)) ?_)
      · rw [left_word H.d hp hx]; rfl
      · rw [eqv_strs]; simp
    · intro q hq
      simp only [List.mem_cons, List.not_mem_nil, or_false] at hq
      rcases hq with rfl | rfl
      · exact ⟨by show (Str.ofString "due", NameKind.free) ∈ _; decide +kernel, rfl⟩
      · exact ⟨by show (Str.ofString "left", NameKind.free) ∈ _; decide +kernel, rfl⟩
  refine sx_weak (sx_cons c1 (sx_cons c2 (sx_cons c3 (sx_cons (se_extend (ds := met.map .str) (ds2 := (wordsOf p.1 p.2).map .str) rfl (ee_name rfl) ?_) (sx_cons (se_append (ds := mails.map .str) (d := .str (mailP d0 d1 d2 d3 s0 s1 s2 s3 p)) rfl (ee_meth ee_str (.cons (ee_name rfl) .nil) (meth_join crlfS (rowsP d0 d1 d2 d3 s0 s1 s2 s3 p) (joinOk_crlf H hp4))) ?_) sx_nil))))) (sub.lk ?_) (subM.lk ?_)
  · rw [List.length_map, List.length_map]; omega
  · rw [List.length_map]; omega
  · intro q hq
    simp only [σM, σL, σH, List.mem_cons, List.not_mem_nil, or_false] at hq
    rcases hq with rfl | rfl | rfl | rfl | rfl | rfl | rfl | rfl | rfl | rfl | rfl | rfl <;> rfl
  · intro q hq
    simp only [List.mem_cons, List.not_mem_nil, or_false] at hq
    rcases hq with rfl | rfl
    · show some _ = some _
      rw [List.map_append]
    · show some _ = some _
      rw [List.map_append]; rfl
end
end Mine
-- G22
namespace Mine
variable {w : World}
section
variable {A : Around} {n4 : List Nat} {n5 : Nat} {d0 d1 d2 d3 : Nat} {s0 s1 s2 s3 f0 f1 f2 f3 : List Nat}
noncomputable def betaP : D → Sg | .d (.tuple [a, b]) => [(Str.ofString "b", .d a), (Str.ofString "a", .d b)] | _ => []
theorem mem_pairs {d : D} (h : d ∈ (pairsL.map pairD).map D.d) : ∃ p ∈ pairsL, d = .d (pairD p) := by
  obtain ⟨y, hy, rfl⟩ := List.mem_map.mp h
  obtain ⟨p, hp, rfl⟩ := List.mem_map.mp hy
  exact ⟨p, hp, rfl⟩
theorem word_loop (H : Data d0 d1 d2 d3 s0 s1 s2 s3 f0 f1 f2 f3) {n : Nat} (hA : Dp (n + 1) A) :
    SE w A (fNames 69) (σM n4 n5 d0 d1 d2 d3 s0 s1 s2 s3 f0 f1 f2 f3) (mM d0 d1 d2 d3 s0 s1 s2 s3 0) (atS (fBody 69) 12) (.nx (σM n4 n5 d0 d1 d2 d3 s0 s1 s2 s3 f0 f1 f2 f3) (mM d0 d1 d2 d3 s0 s1 s2 s3 9)) := by
  have h9 : ((pairsL.map pairD).map D.d).length = 9 := rfl
  have main := se_for (w := w) (A := A) (ns := fNames 69) (σ := σM n4 n5 d0 d1 d2 d3 s0 s1 s2 s3 f0 f1 f2 f3) (ms := mM d0 d1 d2 d3 s0 s1 s2 s3 0) (target := match atS (fBody 69) 12 with | .For t _ _ _ _ => t | _ => .Name (Str.ofString "") ⟨0, 0, 0, 0⟩) (iter := testOf (atS (fBody 69) 12)) (body := inS (atS (fBody 69) 12)) (pos := match atS (fBody 69) 12 with | .For _ _ _ _ p => p | _ => ⟨0, 0, 0, 0⟩) (ds := (pairsL.map pairD).map D.d) betaP (fun _ => σM n4 n5 d0 d1 d2 d3 s0 s1 s2 s3 f0 f1 f2 f3) (mM d0 d1 d2 d3 s0 s1 s2 s3) (iter_list (ee_name rfl)) (fun d hd => ?_) (fun i d hd q hq => ?_) (fun _ _ h => h) (fun _ _ h => h) (fun i d hd => ?_)
  · exact main
  · obtain ⟨p, hp, rfl⟩ := mem_pairs hd
    exact .pair (by decide +kernel) (by decide +kernel) (by decide)
  · obtain ⟨p, hp, rfl⟩ := mem_pairs hd
    simp only [pairD, betaP, List.mem_cons, List.not_mem_nil, or_false] at hq
    rcases hq with rfl | rfl <;> rfl
  · have hi : i < pairsL.length := (List.getElem?_eq_some_iff.mp hd).1
    obtain ⟨p, hp, hpm⟩ : ∃ p, pairsL[i]? = some p ∧ p ∈ pairsL := ⟨_, List.getElem?_eq_getElem hi, List.getElem_mem hi⟩
    have hed : d = .d (pairD p) := by
      rw [List.getElem?_map, List.getElem?_map, hp] at hd
      simpa using hd.symm
    subst hed
    have hi9 : i < 9 := hi
    have t1 : ((pairsL.take (i + 1)).flatMap fun p => wordsOf p.1 p.2) = ((pairsL.take i).flatMap fun p => wordsOf p.1 p.2) ++ wordsOf p.1 p.2 := by
      rw [List.take_add_one, hp, List.flatMap_append]
      exact congrArg _ (List.append_nil _)
    have t2 : (pairsL.take (i + 1)).map (mailP d0 d1 d2 d3 s0 s1 s2 s3) = (pairsL.take i).map (mailP d0 d1 d2 d3 s0 s1 s2 s3) ++ [mailP d0 d1 d2 d3 s0 s1 s2 s3 p] := by
      rw [List.take_add_one, hp, List.map_append]; rfl
    have hml : ((pairsL.take i).flatMap fun p => wordsOf p.1 p.2).length ≤ 100 := by
      have h16 := met_ok.2
      have e : metL = ((pairsL.take i).flatMap fun p => wordsOf p.1 p.2) ++ ((pairsL.drop i).flatMap fun p => wordsOf p.1 p.2) := by
        rw [← List.flatMap_append, List.take_append_drop]; rfl
      rw [e, List.length_append] at h16
      omega
    have hml2 : ((pairsL.take i).map (mailP d0 d1 d2 d3 s0 s1 s2 s3)).length ≤ 100 := by
      rw [List.length_map, List.length_take]
      exact Nat.le_trans (Nat.min_le_left _ _) (by omega)
    have := word_turn (w := w) (A := A) (n4 := n4) (n5 := n5) H hA hpm _ _ hml hml2
    rw [← t1, ← t2] at this
    exact this
noncomputable def mailsD (d0 d1 d2 d3 : Nat) (s0 s1 s2 s3 : List Nat) : List PyData := (pairsL.map (mailP d0 d1 d2 d3 s0 s1 s2 s3)).map .str
noncomputable def keyR : D → PyData | .d (.tuple [x, _]) => x | _ => .none
theorem law_sorted {σ : Sg} {ms : Ms} (h1 : ms.lookup (Str.ofString "met") = some (metL.map .str)) (h2 : (view σ ms).lookup (Str.ofString "states") = some (L ((statesW 4).map (stateD [d0, d1, d2, d3] [s0, s1, s2, s3])))) (hk : compOk (fNames 69) [(Str.ofString ".0", .local), (Str.ofString "run", .local), (Str.ofString "rows", .local)] ((view σ ms).map (·.1)) = true) :
    SE w A (fNames 69) σ ms (atS (fBody 69) 13) (.nx σ ms) := by
  have hv : (view σ ms).lookup (Str.ofString "met") = some (L (metL.map .str)) := by
    unfold view
    rw [List.lookup_append, lookup_map_L, h1]; rfl
  have hsrt : srt metL = srt ((statesW 4).map strW) := srt_perm met_perm
  have hok : ∀ x ∈ srt ((statesW 4).map strW), PyData.strOk x = true := fun x hx => by
    have hx : x ∈ (statesW 4).map strW := (List.mergeSort_perm ((statesW 4).map strW) leS).mem_iff.mp hx
    obtain ⟨u, hu, rfl⟩ := List.mem_map.mp hx
    exact List.all_eq_true.mp runs_ok u hu
  refine se_if (c := false) (tt_cast (tt_cmp (ee_sorted (xs := metL) (by decide +kernel) (by decide +kernel) (ee_name hv) (by rw [met_ok.2]; decide)) (ee_sorted (xs := (statesW 4).map strW) (by decide +kernel) (by decide +kernel) (ee_cast (ee_comp (ds := statesD d0 d1 d2 d3 s0 s1 s2 s3) betaL (fun _ => true) keyR [] (iter_list (ee_name h2)) (fun d hd => ?_) (fun d hd => tts_nil) (fun d hd _ => ?_) (by simp) hk rfl (by rw [states_len]; decide)) ?_) (by rw [List.length_map, statesW_num]; decide)) (cmp_ned _ _ ?_ ?_)) ?_) (fun h => by cases h) (fun _ => sx_nil)
  · obtain ⟨u, hu, rfl⟩ := mem_states hd
    exact .pair (.inl (by decide +kernel)) (.inl (by decide +kernel)) (by decide)
  · obtain ⟨u, hu, rfl⟩ := mem_states hd
    exact ee_name rfl
  · rw [comp_all, statesD, List.map_map, List.map_map, List.map_map]
    rfl
  · rw [hsrt]; exact shaped_strs hok
  · exact shaped_strs hok
  · rw [eqv_strs, hsrt]; simp
-- the leads
noncomputable def leadsD (d0 d1 d2 d3 : Nat) (p : Nat × Nat) : PyData := .list (intsD ([d0, d1, d2, d3].map (leadN p.1 p.2)))
noncomputable def leadsF (d0 d1 d2 d3 : Nat) : D → PyData | .d (.tuple [.int b, .int a]) => leadsD d0 d1 d2 d3 (b.toNat, a.toNat) | _ => .none
theorem law_leads {σ : Sg} (h1 : σ.lookup (Str.ofString "pairs") = some (L (pairsL.map pairD))) (h2 : σ.lookup (Str.ofString "dots") = some (L (intsD [d0, d1, d2, d3]))) (hk : compOk (fNames 69) [(Str.ofString ".0", .local), (Str.ofString "b", .cell), (Str.ofString "a", .cell), (Str.ofString "dots", .free)] (σ.map (·.1)) = true) :
    SE w A (fNames 69) σ [] (atS (fBody 69) 14) (.nx ((Str.ofString "leads", L (pairsL.map (leadsD d0 d1 d2 d3))) :: σ) []) := by
  refine se_comp (ce_cast (ce_list (ds := (pairsL.map pairD).map D.d) betaP (fun _ => true) (leadsF d0 d1 d2 d3) [(Str.ofString "dots", L (intsD [d0, d1, d2, d3]))] (iter_list (ee_name h1)) (fun d hd => ?_) (fun d hd => tts_nil) (fun d hd _ => ?_) ?_ hk rfl (by decide)) ?_) (by decide +kernel) rfl
  · obtain ⟨p, hp, rfl⟩ := mem_pairs hd
    exact .pair (.inr (by decide +kernel)) (.inr (by decide +kernel)) (by decide)
  · obtain ⟨p, hp, rfl⟩ := mem_pairs hd
    obtain ⟨b, a⟩ := p
    refine ee_cast (ee_comp (ds := (intsD [d0, d1, d2, d3]).map .d) (fun d => [(Str.ofString "x", d)]) (fun _ => true) (fun d => .int ((leadN b a (intOf d) : Nat) : Int)) [(Str.ofString "a", I (a : Int)), (Str.ofString "b", I (b : Int))] (iter_list (ee_name rfl)) (fun d hd => .name (.inl (by decide +kernel))) (fun d hd => tts_nil) (fun d hd _ => ?_) ?_ (by kernel_rfl) rfl (by show 4 ≤ sizeLine; decide)) ?_
    · obtain ⟨x, hx, rfl⟩ := mem_ints hd
      have e := lead_nat b a x
      refine ee_cast (d := I (lead (x : Int) b a)) (ee_ifexp (c := decide ((b : Int) < (x : Int))) (tt_cmp (ee_name rfl) (ee_name rfl) (cmp_gt _ _)) (fun h => ?_) (fun h => ?_)) ?_
      · refine ee_cast (ee_bin (ee_bin (ee_name rfl) (ee_name rfl) (op_sub (x : Int) (b : Int))) (ee_name rfl) (op_add _ (a : Int))) ?_
        rw [lead, if_pos (of_decide_eq_true h)]
      · refine ee_cast ee_int ?_
        rw [lead, if_neg (of_decide_eq_false h)]
      · rw [e]; rfl
    · intro q hq
      simp only [List.mem_cons, List.not_mem_nil, or_false] at hq
      rcases hq with rfl | rfl
      · exact ⟨by show (Str.ofString "a", NameKind.free) ∈ _; decide +kernel, rfl⟩
      · exact ⟨by show (Str.ofString "b", NameKind.free) ∈ _; decide +kernel, rfl⟩
    · rw [comp_ints [d0, d1, d2, d3] _ (fun n => .int ((leadN b a n : Nat) : Int)) (fun n _ => rfl)]
      rfl
  · intro q hq
    obtain rfl := List.mem_singleton.mp hq
    exact ⟨by show (Str.ofString "dots", NameKind.free) ∈ _; decide +kernel, h2⟩
  · rw [comp_all, List.map_map, List.map_map]
    rfl
theorem sum_ints : ∀ l : List Nat, (l.map fun (n : Nat) => (n : Int)).sum = ((l.sum : Nat) : Int)
  | [] => rfl
  | a :: r => by simp [sum_ints r]
theorem law_chosen {nums : List Nat} {σ : Sg} (h1 : σ.lookup (Str.ofString "numbers") = some (L (intsD nums))) :
    SE w A (fNames 69) σ [] (atS (fBody 69) 15) (.nx ((Str.ofString "chosen", I ((nums.sum % 9 : Nat) : Int)) :: σ) []) := by
  refine se_assign (ee_bin (ee_cast (ee_sum (xs := nums.map fun (n : Nat) => (n : Int)) (by decide +kernel) (by decide +kernel) (ee_cast (ee_name h1) ?_)) ?_) ee_int (nat_mod nums.sum 9 (by decide))) (by decide +kernel) rfl
  · simp [intsD]
  · rw [sum_ints]
end
end Mine
-- G23
namespace Mine
variable {w : World}
open PySem.StrLaws PySem.Builtin.Str in
theorem splitL_len {y l : List Nat} {ps} (hy : 1 ≤ y.length) (h : SplitL y l ps) : ps.length ≤ l.length + 1 ∧ ∀ p ∈ ps, p.length ≤ l.length := by
  induction h with
  | last _ => exact ⟨by simp, fun p hp => by rw [List.mem_singleton.mp hp]; exact Nat.le_refl _⟩
  | @cut a b ps _ _ ih =>
    simp only [List.length_cons, List.length_append]
    refine ⟨by omega, fun p hp => ?_⟩
    rcases List.mem_cons.mp hp with rfl | hp
    · omega
    · have := ih.2 p hp; omega
/-- what the walk of the match asks of a text -/
theorem ell_asks {want : Str} {ps : List (List Nat)} (h : SplitL [46, 46, 46] want.cps.toList ps) (hw : want.length ≤ 1000) :
    (Builtin.Str.occurrences want dots3 0 want.length 1).isEmpty = false → 2 ≤ (Txt.split want dots3).length ∧ (Txt.split want dots3).length ≤ sizeLine ∧ (∀ x ∈ Txt.split want dots3, x.length ≤ sizeLine) ∧ (Builtin.Str.partsBetween want (Builtin.Str.occurrences want dots3 0 want.length (want.length + 1)) dots3.length).length ≤ sizeLine := fun hc => by
  have h' : SplitL dots3.cps.toList want.cps.toList ps := by rw [dots3_list]; exact h
  have hd1 : 1 ≤ dots3.length := by decide +kernel
  have hsl : sizeLine = 16777216 := rfl
  obtain ⟨l1, l2⟩ := splitL_len (by decide) h
  rw [len_list] at l1 l2
  have h2 : 2 ≤ ps.length := by
    obtain ⟨i, a, b⟩ := (StrLaws.found_iff want dots3).mp (by rw [hc]; rfl)
    have hp : [46, 46, 46] <+: want.cps.toList.drop i := by rw [← dots3_list]; exact (subAt_iff want dots3 i).mp b
    generalize want.cps.toList = X at h hp
    cases h with
    | last hn => exact absurd hp (hn i)
    | @cut a b ps _ hs => have := List.length_pos_iff.mpr hs.ne; simp; omega
  rw [split_of hd1 (by decide +kernel) h', (occ_of hd1 h').1]
  simp only [List.length_map]
  refine ⟨h2, by omega, fun x hx => ?_, by omega⟩
  obtain ⟨p, hp, rfl⟩ := List.mem_map.mp hx
  rw [mkS_len]
  have := l2 p hp
  omega
section
variable {A : Around} {n4 : List Nat} {n5 : Nat} {d0 d1 d2 d3 : Nat} {s0 s1 s2 s3 f0 f1 f2 f3 : List Nat}
theorem mailP_list (p : Nat × Nat) : (mailP d0 d1 d2 d3 s0 s1 s2 s3 p).cps.toList = mailL (([d0, d1, d2, d3].map (leadN p.1 p.2)).zip [s0, s1, s2, s3]) := by
  unfold mailP rowsP rowsN
  have e : (([d0, d1, d2, d3].map (leadN p.1 p.2)).zip [s0, s1, s2, s3]).map (fun p => mkS (rowL p.1 p.2)) ++ [e0] = ((([d0, d1, d2, d3].map (leadN p.1 p.2)).zip [s0, s1, s2, s3]).map (fun (p : Nat × List Nat) => rowL p.1 p.2) ++ [[]]).map mkS := by
    rw [List.map_append, List.map_map, e0_mk]; rfl
  rw [e, join_glue, crlf_list, mkS_list]
  simp [mailL, glueL]
theorem mailP_len (H : Data d0 d1 d2 d3 s0 s1 s2 s3 f0 f1 f2 f3) {p : Nat × Nat} (hp : p.1 + p.2 ≤ 4) : (mailP d0 d1 d2 d3 s0 s1 s2 s3 p).length ≤ 64 := by
  have b0 := (H.s s0 (by simp)).2.1; have b1 := (H.s s1 (by simp)).2.1; have b2 := (H.s s2 (by simp)).2.1; have b3 := (H.s s3 (by simp)).2.1
  have a0 := leadN_le (H.d d0 (by simp)) hp; have a1 := leadN_le (H.d d1 (by simp)) hp; have a2 := leadN_le (H.d d2 (by simp)) hp; have a3 := leadN_le (H.d d3 (by simp)) hp
  rw [← len_list, mailP_list]
  simp only [mailL, List.map_cons, List.map_nil, List.zip_cons_cons, List.zip_nil_right, List.flatten_cons, List.flatten_nil, List.length_append, List.length_nil, List.length_cons, rowL_len]
  omega
theorem ell_law (H : Data d0 d1 d2 d3 s0 s1 s2 s3 f0 f1 f2 f3) (p q : Nat × Nat) (z : Str) (hz : fitsL ([d0, d1, d2, d3].map (leadN p.1 p.2)) ([d0, d1, d2, d3].map (leadN q.1 q.2)) = true ∨ z.cps.toList = [35]) :
    ellMatch (mailP d0 d1 d2 d3 s0 s1 s2 s3 p) (Txt.replace (mailP d0 d1 d2 d3 s0 s1 s2 s3 q) dots3 z) = fitsL ([d0, d1, d2, d3].map (leadN p.1 p.2)) ([d0, d1, d2, d3].map (leadN q.1 q.2)) :=
  ell_fits (sgs := [s0, s1, s2, s3]) (by simp) H.s rfl rfl (mailP_list p) (replace_mail H.s (mailP_list q)) hz
theorem rep_len (H : Data d0 d1 d2 d3 s0 s1 s2 s3 f0 f1 f2 f3) {q : Nat × Nat} (hq : q.1 + q.2 ≤ 4) {z : Str} (hz : z.length ≤ 20) : (Txt.replace (mailP d0 d1 d2 d3 s0 s1 s2 s3 q) dots3 z).length ≤ 1000 := by
  have b0 := (H.s s0 (by simp)).2.1; have b1 := (H.s s1 (by simp)).2.1; have b2 := (H.s s2 (by simp)).2.1; have b3 := (H.s s3 (by simp)).2.1
  have a0 := leadN_le (H.d d0 (by simp)) hq; have a1 := leadN_le (H.d d1 (by simp)) hq; have a2 := leadN_le (H.d d2 (by simp)) hq; have a3 := leadN_le (H.d d3 (by simp)) hq
  have hf : ∀ (n : Nat) (z : List Nat), z.length ≤ 20 → n ≤ 10 → ((List.replicate (n / 3) z).flatten).length ≤ 60 := fun n z hz hn => by
    rw [List.length_flatten, List.map_replicate, List.sum_replicate_nat]
    have : n / 3 * z.length ≤ 3 * 20 := Nat.mul_le_mul (by omega) hz
    omega
  have ht : ∀ (n : Nat) (s : List Nat), (tailT (n % 3) s).length ≤ 5 + s.length := fun n s => by
    simp [tailT]; omega
  rw [← len_list, replace_mail H.s (mailP_list q)]
  have hz' : z.cps.toList.length ≤ 20 := by rw [len_list]; exact hz
  simp only [RG, qT, List.map_cons, List.map_nil, List.zip_cons_cons, List.zip_nil_right, List.flatten_cons, List.flatten_nil, List.length_append, List.length_nil]
  have c0 := hf _ _ hz' a0; have c1 := hf _ _ hz' a1; have c2 := hf _ _ hz' a2; have c3 := hf _ _ hz' a3
  have e0 := ht (leadN q.1 q.2 d0) s0; have e1 := ht (leadN q.1 q.2 d1) s1; have e2 := ht (leadN q.1 q.2 d2) s2; have e3 := ht (leadN q.1 q.2 d3) s3
  omega
-- the walk of the wants
theorem unswapped2 {ns : List (Str × NameKind)} {env : Env} {x y : Str} {p q : Pos} {k k2 : Nat} {r r2 : Pos} {e1 e2 : Expr} (h : EnvOk env ns) (hx : ns.lookup x = some .cell) (hy : ns.lookup y = some .cell) :
    swappedStores [.Tuple [.Name x p, .Name y q] k r] (.Tuple [e1, e2] k2 r2) env = pure none := by
  have hk1 := lookup_kind h x
  have hk2 := lookup_kind h y
  rw [hx] at hk1; rw [hy] at hk2
  unfold swappedStores
  simp [hk1, hk2]
noncomputable def fitD (ws os : List Nat) : D → PyData | .d (.int k) => .bool (fitRow (ws.getD k.toNat 0) (os.getD k.toNat 0)) | _ => .none
noncomputable def σN (n4 : List Nat) (n5 d0 d1 d2 d3 : Nat) (s0 s1 s2 s3 f0 f1 f2 f3 : List Nat) (c : Nat) : Sg := (Str.ofString "chosen", I (c : Int)) :: (Str.ofString "leads", L (pairsL.map (leadsD d0 d1 d2 d3))) :: (Str.ofString "mails", L (mailsD d0 d1 d2 d3 s0 s1 s2 s3)) :: σH (n4 ++ [n5]) [d0, d1, d2, d3] [s0, s1, s2, s3] [f0, f1, f2, f3]
noncomputable def pI (i : Nat) : Nat × Nat := pairsL.getD i (0, 0)
theorem pI_at {i : Nat} (h : i < 9) : pairsL[i]? = some (pI i) ∧ (pI i).1 + (pI i).2 ≤ 4 := by
  have hi : i < pairsL.length := h
  have e : pairsL[i]? = some (pI i) := by
    rw [pI, List.getD_eq_getElem?_getD, List.getElem?_eq_getElem hi]; rfl
  exact ⟨e, pairs_small _ (List.mem_of_getElem? e)⟩
noncomputable def leadsOf (d0 d1 d2 d3 i : Nat) : List Nat := [d0, d1, d2, d3].map (leadN (pI i).1 (pI i).2)
theorem ee_lead {σ : Sg} {e : Expr} {p pos : Pos} {i : Nat} (h : i < 9) (h1 : σ.lookup (Str.ofString "leads") = some (L (pairsL.map (leadsD d0 d1 d2 d3)))) (he : EE w A (fNames 69) σ e (I (i : Int)))
    (hs : ∀ o j, subscripted e false o j = operate [o, j] (getItem o j) := by intro _ _; with_unfolding_all rfl) : EE w A (fNames 69) σ (.Subscript (.Name (Str.ofString "leads") p) e pos) (L (intsD (leadsOf d0 d1 d2 d3 i))) :=
  ee_sub (ee_name h1) he (item_list (d := leadsD d0 d1 d2 d3 (pI i)) (by omega) (by omega) (by rw [Int.toNat_natCast, List.getElem?_map, (pI_at h).1]; rfl) hs)
theorem ee_mail {σ : Sg} {e : Expr} {p pos : Pos} {i : Nat} (h : i < 9) (h1 : σ.lookup (Str.ofString "mails") = some (L (mailsD d0 d1 d2 d3 s0 s1 s2 s3))) (he : EE w A (fNames 69) σ e (I (i : Int)))
    (hs : ∀ o j, subscripted e false o j = operate [o, j] (getItem o j) := by intro _ _; with_unfolding_all rfl) : EE w A (fNames 69) σ (.Subscript (.Name (Str.ofString "mails") p) e pos) (S (mailP d0 d1 d2 d3 s0 s1 s2 s3 (pI i))) :=
  ee_sub (ee_name h1) he (item_list (d := .str (mailP d0 d1 d2 d3 s0 s1 s2 s3 (pI i))) (by omega) (by omega) (by rw [Int.toNat_natCast, mailsD, List.getElem?_map, List.getElem?_map, (pI_at h).1]; rfl) hs)
theorem fits_list (ws os : List Nat) (h1 : ws.length = 4) (h2 : os.length = 4) : ((((List.range 4).map fun i : Nat => I i).filter fun _ => true).map (fitD ws os)) = ((List.range 4).map fun i => fitRow (ws.getD i 0) (os.getD i 0)).map PyData.bool ∧ (((List.range 4).map fun i => fitRow (ws.getD i 0) (os.getD i 0)) == [true, true, true, true]) = fitsL ws os := by
  obtain ⟨a, b, c, d, rfl⟩ := four h1
  obtain ⟨a', b', c', d', rfl⟩ := four h2
  refine ⟨rfl, ?_⟩
  show ([fitRow a a', fitRow b b', fitRow c c', fitRow d d'] == [true, true, true, true]) = (fitRow a a' && (fitRow b b' && (fitRow c c' && (fitRow d d' && true))))
  cases fitRow a a' <;> cases fitRow b b' <;> cases fitRow c c' <;> cases fitRow d d' <;> rfl
theorem item_ints {ns : List (Str × NameKind)} {σ : Sg} {x : Str} {e : Expr} {p pos : Pos} {l : List Nat} {i : Nat} (h : i < l.length) (h1 : σ.lookup x = some (L (intsD l))) (he : EE w A ns σ e (I (i : Int))) (hl : l.length ≤ 1000)
    (hs : ∀ o j, subscripted e false o j = operate [o, j] (getItem o j) := by intro _ _; with_unfolding_all rfl) (hd : (x == ("__debug__" : Str)) = false := by decide) (hc : (x == ("__classdict__" : Str)) = false := by decide) : EE w A ns σ (.Subscript (.Name x p) e pos) (I ((l.getD i 0 : Nat) : Int)) :=
  ee_sub (ee_name h1 hd hc) he (item_list (d := .int ((l.getD i 0 : Nat) : Int)) (by omega) (by omega) (by rw [Int.toNat_natCast, intsD, List.getElem?_map, List.getD_eq_getElem?_getD, List.getElem?_eq_getElem h]; rfl) hs)
theorem fits_ee {σ : Sg} {ws os : List Nat} (h1 : ws.length = 4) (h2 : os.length = 4) (hw : σ.lookup (Str.ofString "own") = some (L (intsD ws))) (ho : σ.lookup (Str.ofString "other") = some (L (intsD os))) (hk : compOk (fNames 69) [(Str.ofString ".0", .local), (Str.ofString "k", .local), (Str.ofString "other", .free), (Str.ofString "own", .free)] (σ.map (·.1)) = true) :
    EE w A (fNames 69) σ (testOf (atS (inS (atS (inS (atS (fBody 69) 16)) 0)) 1)) (B (fitsL ws os)) := by
  obtain ⟨k1, k2⟩ := fits_list ws os h1 h2
  refine ee_cast (ee_cmp (ee_cast (ee_comp (ds := (List.range 4).map fun i : Nat => I i) (fun d => [(Str.ofString "k", d)]) (fun _ => true) (fitD ws os) [(Str.ofString "own", L (intsD ws)), (Str.ofString "other", L (intsD os))] (iter_range1 (n := 4) (by decide +kernel) (by decide +kernel) ee_int (by decide)) (fun d hd => .name (.inl (by decide +kernel))) (fun d hd => tts_nil) (fun d hd _ => ?_) ?_ hk) (congrArg L k1)) (ee_list_mul (ds := [.bool true]) (n := 4) (.cons ee_bool .nil) ee_int (by decide) (by decide) (by decide) (by simp)) (cmp_eqd _ _ ?_ rfl)) ?_
  · obtain ⟨i, hi, rfl⟩ := mem_range_I hd
    have g1 : ∀ {p1 q1 q2 : Pos}, EE w A (rel (fNames 69) [(Str.ofString ".0", .local), (Str.ofString "k", .local), (Str.ofString "other", .free), (Str.ofString "own", .free)]) ([(Str.ofString "k", I (i : Int))] ++ [(Str.ofString "own", L (intsD ws)), (Str.ofString "other", L (intsD os))]) (.Subscript (.Name (Str.ofString "own") p1) (.Name (Str.ofString "k") q1) q2) (I ((ws.getD i 0 : Nat) : Int)) := item_ints (by omega) rfl (ee_name rfl) (by omega)
    have g2 : ∀ {p1 q1 q2 : Pos}, EE w A (rel (fNames 69) [(Str.ofString ".0", .local), (Str.ofString "k", .local), (Str.ofString "other", .free), (Str.ofString "own", .free)]) ([(Str.ofString "k", I (i : Int))] ++ [(Str.ofString "own", L (intsD ws)), (Str.ofString "other", L (intsD os))]) (.Subscript (.Name (Str.ofString "other") p1) (.Name (Str.ofString "k") q1) q2) (I ((os.getD i 0 : Nat) : Int)) := item_ints (by omega) rfl (ee_name rfl) (by omega)
    refine ee_cast (d := B (fitRow (ws.getD i 0) (os.getD i 0))) (ee_ifexp (c := decide ((2 : Int) < ((ws.getD i 0 : Nat) : Int))) (tt_cmp g1 ee_int (cmp_gt _ 2)) (fun h => ee_cast (ee_cmp (ee_bin g1 ee_int (nat_mod _ 3 (by decide))) (ee_bin g2 ee_int (nat_mod _ 3 (by decide))) (cmp_le _ _)) ?_) (fun h => ee_cast (ee_cmp g1 g2 (cmp_eqi _ _)) ?_)) rfl
    · have h := of_decide_eq_true h
      rw [fitRow, if_pos (by omega)]
      refine congrArg B ?_
      rw [Bool.eq_iff_iff, decide_eq_true_iff, decide_eq_true_iff]
      omega
    · have h := of_decide_eq_false h
      rw [fitRow, if_neg (by omega)]
      refine congrArg B ?_
      rw [Bool.eq_iff_iff, beq_iff_eq, beq_iff_eq]
      omega
  · intro q hq
    simp only [List.mem_cons, List.not_mem_nil, or_false] at hq
    rcases hq with rfl | rfl
    · exact ⟨by show (Str.ofString "own", NameKind.free) ∈ _; decide +kernel, hw⟩
    · exact ⟨by show (Str.ofString "other", NameKind.free) ∈ _; decide +kernel, ho⟩
  · refine shaped_list fun d hd => ?_
    obtain ⟨x, hx, rfl⟩ := List.mem_map.mp hd
    rfl
  · refine congrArg B ?_
    rw [show ((List.replicate (4 : Int).toNat [PyData.bool true]).flatten) = [true, true, true, true].map PyData.bool from rfl, eqv_bools, k2]
end
end Mine
-- G24
namespace Mine
variable {w : World}
section
variable {A : Around} {n4 : List Nat} {n5 : Nat} {d0 d1 d2 d3 : Nat} {s0 s1 s2 s3 f0 f1 f2 f3 : List Nat}
noncomputable def hashS : Str := Str.ofString "#"
noncomputable def gapS (s1 s3 : List Nat) : Str := mkS (s1 ++ [46]) ++ crlfS ++ mkS (s3 ++ [46])
theorem hash_list : hashS.cps.toList = [35] := by decide +kernel
theorem gap_len (s1 s3 : List Nat) : (gapS s1 s3).length = s1.length + s3.length + 4 := by
  have hc : crlfS = mkS [13, 10] := by decide +kernel
  unfold gapS
  rw [hc, mkS_cat, mkS_cat, mkS_len]
  simp; omega
theorem ne_dots {z : Str} (h : z.length ≠ 3) : (dots3 == z) = false := by
  rw [beq_eq_false_iff_ne]
  intro e
  subst e
  exact h (by decide +kernel)
theorem text_turn (H : Data d0 d1 d2 d3 s0 s1 s2 s3 f0 f1 f2 f3) {n : Nat} (hA : Dp (n + 1) A) {i j : Nat} (hi : i < 9) (hj : j < 9) {σ : Sg} {z : Str} (hz : z.length ≤ 20) (hz3 : z.length ≠ 3) (hfit : fitsL (leadsOf d0 d1 d2 d3 i) (leadsOf d0 d1 d2 d3 j) = true ∨ z.cps.toList = [35])
    (ht : σ.lookup (Str.ofString "text") = none) (h1 : σ.lookup (Str.ofString "mails") = some (L (mailsD d0 d1 d2 d3 s0 s1 s2 s3))) (h2 : σ.lookup (Str.ofString "want") = some (I (i : Int))) (h3 : σ.lookup (Str.ofString "got") = some (I (j : Int))) (h4 : σ.lookup (Str.ofString "signs") = some (.tmap signF)) (h5 : σ.lookup (Str.ofString "fits") = some (B (fitsL (leadsOf d0 d1 d2 d3 i) (leadsOf d0 d1 d2 d3 j)))) :
    SX w A (fNames 69) ([(Str.ofString "text", .new z)] ++ σ) [] (inS (atS (inS (atS (inS (atS (fBody 69) 16)) 0)) 2)) (.nx σ []) := by
  have hq := (pI_at hj).2
  have hp := (pI_at hi).2
  have hml := mailP_len H hp
  have hml2 := mailP_len H hq
  have hrl := rep_len H hq hz
  have hsl : sizeLine = 16777216 := rfl
  have hlaw := ell_law H (pI i) (pI j) z hfit
  have hsp := split_mail (([d0, d1, d2, d3].map (leadN (pI i).1 (pI i).2)).zip [s0, s1, s2, s3]) fun p hp => H.s _ (List.of_mem_zip hp).2
  rw [← mailP_list] at hsp
  refine sx_weak (sx_cons (se_if (c := false) (tt_cast (tt_cmp (ee_fn (x := Str.ofString "_ellipsis_match") (k := 58) (a := 62) (by decide +kernel) (by decide +kernel) (.cons (ee_mail hi (lk_cons h1 rfl) (ee_name (lk_cons h2 rfl))) (.cons (ee_meth (ee_mail hj (lk_cons h1 rfl) (ee_name (lk_cons h3 rfl))) (.cons (ee_sub (ee_name (lk_cons h4 rfl)) ee_int (item_tmap sign_dots)) (.cons (ee_name rfl) .nil)) (meth_replace _ dots3 z (ne_dots hz3) ?_)) .nil)) (ellipsis_match hA _ _ (by omega) (by omega) (ell_asks hsp (by omega)))) (ee_name (lk_cons h5 rfl)) (cmp_isnot _ _)) ?_) (fun h => by cases h) (fun _ => sx_nil)) sx_nil) (fun x v h => ?_) (fun _ _ h => h)
  · have : ((mailP d0 d1 d2 d3 s0 s1 s2 s3 (pI j)).length + 1) * z.length ≤ 65 * 20 := Nat.mul_le_mul (by omega) hz
    omega
  · rw [hlaw]
    show (fitsL _ _ != fitsL _ _) = false
    simp
    rfl
  · refine lk_cons h ?_
    rw [beq_eq_false_iff_ne]
    intro e
    subst e
    rw [ht] at h
    cases h
theorem text_loop (H : Data d0 d1 d2 d3 s0 s1 s2 s3 f0 f1 f2 f3) {n : Nat} (hA : Dp (n + 1) A) {i j : Nat} (hi : i < 9) (hj : j < 9) {σ : Sg}
    (ht : σ.lookup (Str.ofString "text") = none) (h1 : σ.lookup (Str.ofString "mails") = some (L (mailsD d0 d1 d2 d3 s0 s1 s2 s3))) (h2 : σ.lookup (Str.ofString "want") = some (I (i : Int))) (h3 : σ.lookup (Str.ofString "got") = some (I (j : Int))) (h4 : σ.lookup (Str.ofString "signs") = some (.tmap signF)) (h5 : σ.lookup (Str.ofString "fits") = some (B (fitsL (leadsOf d0 d1 d2 d3 i) (leadsOf d0 d1 d2 d3 j)))) (h6 : σ.lookup (Str.ofString "stems") = some (L (strsD ([s0, s1, s2, s3].map (· ++ [46]))))) :
    SE w A (fNames 69) σ [] (atS (inS (atS (inS (atS (fBody 69) 16)) 0)) 2) (.nx σ []) := by
  have hsl : sizeLine = 16777216 := rfl
  have hh1 : hashS.length = 1 := by decide +kernel
  have hh0 : e0.length = 0 := by decide +kernel
  have b1 := (H.s s1 (by simp)).2.1; have b3 := (H.s s3 (by simp)).2.1
  have c1 : 1 ≤ s1.length := List.length_pos_iff.mpr (H.s s1 (by simp)).1
  have c3 : 1 ≤ s3.length := List.length_pos_iff.mpr (H.s s3 (by simp)).1
  have hgl := gap_len s1 s3
  have hcl : crlfS.length = 2 := by decide +kernel
  have run : ∀ ds : List D, ITER w A (fNames 69) σ (testOf (atS (inS (atS (inS (atS (fBody 69) 16)) 0)) 2)) ds → (∀ d ∈ ds, ∃ z, d = .new z ∧ z.length ≤ 20 ∧ z.length ≠ 3 ∧ (fitsL (leadsOf d0 d1 d2 d3 i) (leadsOf d0 d1 d2 d3 j) = true ∨ z.cps.toList = [35])) →
      SE w A (fNames 69) σ [] (atS (inS (atS (inS (atS (fBody 69) 16)) 0)) 2) (.nx σ []) := fun ds hit hds => by
    have main := se_for (w := w) (A := A) (ns := fNames 69) (σ := σ) (ms := []) (target := match atS (inS (atS (inS (atS (fBody 69) 16)) 0)) 2 with | .For t _ _ _ _ => t | _ => .Name (Str.ofString "") ⟨0, 0, 0, 0⟩) (iter := testOf (atS (inS (atS (inS (atS (fBody 69) 16)) 0)) 2)) (body := inS (atS (inS (atS (inS (atS (fBody 69) 16)) 0)) 2)) (pos := match atS (inS (atS (inS (atS (fBody 69) 16)) 0)) 2 with | .For _ _ _ _ p => p | _ => ⟨0, 0, 0, 0⟩) (ds := ds) (fun d => [(Str.ofString "text", d)]) (fun _ => σ) (fun _ => []) hit (fun d hd => .name (by decide +kernel)) (fun _ _ _ _ _ => rfl) (fun _ _ h => h) (fun _ _ h => h) (fun k d hd => ?_)
    · exact main
    · obtain ⟨z, rfl, z1, z2, z3⟩ := hds d (List.mem_of_getElem? hd)
      exact text_turn H hA hi hj z1 z2 z3 ht h1 h2 h3 h4 h5
  have gap : ∀ {c1 p1 p2 p3 p4 p5 p6 q1 q2 : Pos} {k1 k2 k3 : Nat}, EE w A (fNames 69) σ (.BinOp (.BinOp (.Subscript (.Name (Str.ofString "stems") p1) (.Constant (.int 1) k1 p2) p3) .Add (.Constant (.str (Str.ofString "\x0d\n")) k2 q1) q2) .Add (.Subscript (.Name (Str.ofString "stems") p4) (.Constant (.int 3) k3 p5) p6) c1) (.new (gapS s1 s3)) := by
    intros
    refine ee_cat_new (x := mkS (s1 ++ [46]) ++ crlfS) (y := mkS (s3 ++ [46])) (ee_bin (ee_sub (ee_name h6) ee_int (item_list (d := .str (mkS (s1 ++ [46]))) (by decide) (by decide) rfl)) ee_str (op_cat _ _ ?_)) (ee_sub (ee_name h6) ee_int (item_list (d := .str (mkS (s3 ++ [46]))) (by decide) (by decide) rfl)) ?_ ?_ ?_
    · rw [mkS_len]
      have : (Str.ofString "\x0d\n").length = 2 := by decide +kernel
      simp; omega
    · have hc : crlfS = mkS [13, 10] := by decide +kernel
      rw [hc, mkS_cat, mkS_len]; simp
    · rw [mkS_len]; simp
    · have hc : crlfS = mkS [13, 10] := by decide +kernel
      rw [hc, mkS_cat, mkS_len, mkS_len]; simp; omega
  cases hf : fitsL (leadsOf d0 d1 d2 d3 i) (leadsOf d0 d1 d2 d3 j) with
  | true =>
    refine run [.new hashS, .new e0, .new (gapS s1 s3)] (iter_ifexp (c := true) (tt_bool (ee_cast (ee_name h5) (by rw [hf]))) (fun _ => iter_display (.cons ee_str_new (.cons ee_str_new (.cons gap .nil)))) (fun h => by cases h)) fun d hd => ?_
    simp only [List.mem_cons, List.not_mem_nil, or_false] at hd
    rcases hd with rfl | rfl | rfl
    · exact ⟨_, rfl, by omega, by omega, .inl hf⟩
    · exact ⟨_, rfl, by omega, by omega, .inl hf⟩
    · exact ⟨_, rfl, by omega, by omega, .inl hf⟩
  | false =>
    refine run [.new hashS] (iter_ifexp (c := false) (tt_bool (ee_cast (ee_name h5) (by rw [hf]))) (fun h => by cases h) (fun _ => iter_display (.cons ee_str_new .nil))) fun d hd => ?_
    obtain rfl := List.mem_singleton.mp hd
    exact ⟨_, rfl, by omega, by omega, .inr hash_list⟩
noncomputable def σW (n4 : List Nat) (n5 d0 d1 d2 d3 : Nat) (s0 s1 s2 s3 f0 f1 f2 f3 : List Nat) (c j : Nat) : Sg := (Str.ofString "j", I (j : Int)) :: σN n4 n5 d0 d1 d2 d3 s0 s1 s2 s3 f0 f1 f2 f3 c
theorem want_turn (H : Data d0 d1 d2 d3 s0 s1 s2 s3 f0 f1 f2 f3) {n : Nat} (hA : Dp (n + 1) A) {c i j k : Nat} (hi : i < 9) (hj : j < 9) :
    SX w A (fNames 69) ([(Str.ofString "want", I (i : Int)), (Str.ofString "got", I (j : Int))] ++ σW n4 n5 d0 d1 d2 d3 s0 s1 s2 s3 f0 f1 f2 f3 c k) [] (inS (atS (inS (atS (fBody 69) 16)) 0)) (.nx (σW n4 n5 d0 d1 d2 d3 s0 s1 s2 s3 f0 f1 f2 f3 c k) []) := by
  refine sx_weak (sx_cons (se_tuple (d := T [.list (intsD (leadsOf d0 d1 d2 d3 i)), .list (intsD (leadsOf d0 d1 d2 d3 j))]) (ee_tuple (ds := [.list (intsD (leadsOf d0 d1 d2 d3 i)), .list (intsD (leadsOf d0 d1 d2 d3 j))]) (.cons (ee_lead hi rfl (ee_name rfl)) (.cons (ee_lead hj rfl (ee_name rfl)) .nil))) (.pair (by decide +kernel) (by decide +kernel) (by decide)) ?_ (fun env Q hok s h => Assign_Tuple h rfl (unswapped2 hok (by decide +kernel) (by decide +kernel))))
    (sx_cons (se_assign (fits_ee (ws := leadsOf d0 d1 d2 d3 i) (os := leadsOf d0 d1 d2 d3 j) rfl rfl rfl rfl (by kernel_rfl)) (by decide +kernel) rfl) (sx_cons (text_loop H hA hi hj rfl rfl rfl rfl rfl rfl rfl) sx_nil))) (sub.lk ?_) (fun _ _ h => h)
  · intro q hq
    simp only [List.mem_cons, List.not_mem_nil, or_false] at hq
    rcases hq with rfl | rfl <;> rfl
  · intro q hq
    simp only [σW, σN, σH, List.mem_cons, List.not_mem_nil, or_false] at hq
    rcases hq with rfl | rfl | rfl | rfl | rfl | rfl | rfl | rfl | rfl <;> rfl
noncomputable def betaW : D → Sg | .d (.tuple [a, b]) => [(Str.ofString "want", .d a), (Str.ofString "got", .d b)] | _ => []
theorem want_loop (H : Data d0 d1 d2 d3 s0 s1 s2 s3 f0 f1 f2 f3) {n : Nat} (hA : Dp (n + 1) A) {c : Nat} (hc : c < 9) :
    SE w A (fNames 69) (σN n4 n5 d0 d1 d2 d3 s0 s1 s2 s3 f0 f1 f2 f3 c) [] (atS (fBody 69) 16) (.nx (σN n4 n5 d0 d1 d2 d3 s0 s1 s2 s3 f0 f1 f2 f3 c) []) := by
  have main := se_for (w := w) (A := A) (ns := fNames 69) (σ := σN n4 n5 d0 d1 d2 d3 s0 s1 s2 s3 f0 f1 f2 f3 c) (ms := []) (target := match atS (fBody 69) 16 with | .For t _ _ _ _ => t | _ => .Name (Str.ofString "") ⟨0, 0, 0, 0⟩) (iter := testOf (atS (fBody 69) 16)) (body := inS (atS (fBody 69) 16)) (pos := match atS (fBody 69) 16 with | .For _ _ _ _ p => p | _ => ⟨0, 0, 0, 0⟩) (ds := (List.range 9).map fun i : Nat => I i) (fun d => [(Str.ofString "j", d)]) (fun _ => σN n4 n5 d0 d1 d2 d3 s0 s1 s2 s3 f0 f1 f2 f3 c) (fun _ => []) (iter_range1 (n := 9) (by decide +kernel) (by decide +kernel) ee_int (by decide)) (fun d hd => .name (by decide +kernel)) (fun _ _ _ _ _ => rfl) (fun _ _ h => h) (fun _ _ h => h) (fun i d hd => ?_)
  · exact main
  · obtain ⟨j, hj, rfl⟩ := mem_range_I (List.mem_of_getElem? hd)
    refine sx_weak (sx_cons (se_for (ds := [T [.int (c : Int), .int (j : Int)], T [.int (j : Int), .int (c : Int)]]) betaW (fun _ => σW n4 n5 d0 d1 d2 d3 s0 s1 s2 s3 f0 f1 f2 f3 c j) (fun _ => []) (iter_display (.cons (ee_tuple (ds := [.int (c : Int), .int (j : Int)]) (.cons (ee_name rfl) (.cons (ee_name rfl) .nil))) (.cons (ee_tuple (ds := [.int (j : Int), .int (c : Int)]) (.cons (ee_name rfl) (.cons (ee_name rfl) .nil))) .nil))) (fun e he => ?_) (fun _ _ _ _ _ => rfl) (fun _ _ h => h) (fun _ _ h => h) (fun k e he => ?_)) sx_nil) (sub.lk ?_) (fun _ _ h => h)
    · simp only [List.mem_cons, List.not_mem_nil, or_false] at he
      rcases he with rfl | rfl <;> exact .pair (by decide +kernel) (by decide +kernel) (by decide)
    · have he' := List.mem_of_getElem? he
      simp only [List.mem_cons, List.not_mem_nil, or_false] at he'
      rcases he' with rfl | rfl
      · exact want_turn H hA hc hj
      · exact want_turn H hA hj hc
    · intro q hq
      simp only [σN, σH, List.mem_cons, List.not_mem_nil, or_false] at hq
      rcases hq with rfl | rfl | rfl | rfl | rfl | rfl | rfl | rfl <;> rfl
end
end Mine
-- G25
namespace Mine
variable {w : World}
noncomputable def own5 : List Int := [204, 408, 7, 26, 0]
noncomputable def nkN (xs : List Int) (k : Nat) : Nat := (numK xs own5 k).toNat
theorem nk_nonneg (xs : List Int) (k : Nat) : 0 ≤ numK xs own5 k := by
  unfold numK
  exact Int.fmod_nonneg_of_pos _ (by decide)
theorem numbers_eq (xs : List Int) : ((List.range 5).map (numK xs own5)).map PyData.int = intsD ([nkN xs 0, nkN xs 1, nkN xs 2, nkN xs 3] ++ [nkN xs 4]) := by
  have h : ∀ k, PyData.int (numK xs own5 k) = .int ((nkN xs k : Nat) : Int) := fun k => by
    unfold nkN
    rw [Int.toNat_of_nonneg (nk_nonneg xs k)]
  show [PyData.int (numK xs own5 0), .int (numK xs own5 1), .int (numK xs own5 2), .int (numK xs own5 3), .int (numK xs own5 4)] = [.int ((nkN xs 0 : Nat) : Int), .int ((nkN xs 1 : Nat) : Int), .int ((nkN xs 2 : Nat) : Int), .int ((nkN xs 3 : Nat) : Int), .int ((nkN xs 4 : Nat) : Int)]
  rw [h, h, h, h, h]
theorem law_body {A : Around} {n : Nat} (hA : Dp (n + 2) A) (xs : List Int) (hxs : xs.length ≤ 63) :
    SX w A (fNames 69) [(Str.ofString "script", L (xs.map .int))] [] (fBody 69) (.rt (B true)) := by
  have hA1 : Dp (n + 1) A := hA.mono (by omega)
  have hnum := numbers_eq xs
  generalize nkN xs 0 = a at hnum
  generalize nkN xs 1 = b at hnum
  generalize nkN xs 2 = c at hnum
  generalize nkN xs 3 = d at hnum
  generalize nkN xs 4 = n5 at hnum
  have H : Data (a % 7) (b % 7) (c % 7) (d % 7) (signL (a / 7 % 28)) (signL (b / 7 % 28)) (signL (c / 7 % 28)) (signL (d / 7 % 28)) (endL (a / 196 % 3)) (endL (b / 196 % 3)) (endL (c / 196 % 3)) (endL (d / 196 % 3)) := by
    refine ⟨fun x hx => ?_, fun x hx => ?_, fun x hx => ?_⟩
    · simp only [List.mem_cons, List.not_mem_nil, or_false] at hx
      rcases hx with rfl | rfl | rfl | rfl <;> omega
    · simp only [List.mem_cons, List.not_mem_nil, or_false] at hx
      rcases hx with rfl | rfl | rfl | rfl <;> exact sign_ok (Nat.mod_lt _ (by decide))
    · simp only [List.mem_cons, List.not_mem_nil, or_false] at hx
      rcases hx with rfl | rfl | rfl | rfl <;> exact endL_ok _
  have c0 : SE w A (fNames 69) [(Str.ofString "script", L (xs.map .int))] [] (atS (fBody 69) 0) (.nx [(Str.ofString "numbers", L (intsD ([a, b, c, d] ++ [n5])))] []) := by
    refine se_weak (se_assign (ee_cast (ee_fn (x := Str.ofString "_law_numbers") (k := 65) (a := 84) (by decide +kernel) (by decide +kernel) (.cons (ee_name rfl) (.cons (ee_list (ds := [.int 204, .int 408, .int 7, .int 26, .int 0]) (.cons ee_int (.cons ee_int (.cons ee_int (.cons ee_int (.cons ee_int .nil)))))) .nil)) (law_numbers hA1 xs own5 hxs rfl)) (congrArg L hnum)) (by decide +kernel) rfl) (sub.lk ?_) (fun _ _ h => h)
    intro q hq
    obtain rfl := List.mem_singleton.mp hq
    rfl
  have cH : SE w A (fNames 69) [(Str.ofString "stems", L (strsD ([a, b, c, d].map fun n => signL (n / 7 % 28) ++ [46]))), (Str.ofString "dots", L (intsD ([a, b, c, d].map (· % 7)))), (Str.ofString "signs", .tmap signF), (Str.ofString "numbers", L (intsD ([a, b, c, d] ++ [n5])))] [] (atS (fBody 69) 4)
      (.nx (σH ([a, b, c, d] ++ [n5]) [a % 7, b % 7, c % 7, d % 7] [signL (a / 7 % 28), signL (b / 7 % 28), signL (c / 7 % 28), signL (d / 7 % 28)] [endL (a / 196 % 3), endL (b / 196 % 3), endL (c / 196 % 3), endL (d / 196 % 3)]) []) :=
    head_ends (n4 := [a, b, c, d]) (n5 := n5) rfl rfl (by kernel_rfl)
  generalize hd0 : a % 7 = d0 at H cH
  generalize hd1 : b % 7 = d1 at H cH
  generalize hd2 : c % 7 = d2 at H cH
  generalize hd3 : d % 7 = d3 at H cH
  generalize hs0 : signL (a / 7 % 28) = s0 at H cH
  generalize hs1 : signL (b / 7 % 28) = s1 at H cH
  generalize hs2 : signL (c / 7 % 28) = s2 at H cH
  generalize hs3 : signL (d / 7 % 28) = s3 at H cH
  generalize endL (a / 196 % 3) = f0 at H cH
  generalize endL (b / 196 % 3) = f1 at H cH
  generalize endL (c / 196 % 3) = f2 at H cH
  generalize endL (d / 196 % 3) = f3 at H cH
  refine sx_cons c0 (sx_cons head_signs (sx_cons (head_dots rfl) (sx_cons (head_stems (n4 := [a, b, c, d]) (n5 := n5) rfl rfl rfl (by kernel_rfl)) (sx_cons cH ?_))))
  refine sx_cons (σ' := σL ([a, b, c, d] ++ [n5]) d0 d1 d2 d3 s0 s1 s2 s3 f0 f1 f2 f3 0) (ms' := []) (head_states hA1 rfl rfl H.d H.s rfl rfl) ?_
  refine sx_cons (state_loop H hA1) ?_
  refine sx_cons (law_left rfl (by kernel_rfl)) ?_
  refine sx_cons (law_pairs (by kernel_rfl)) ?_
  refine sx_cons (law_three (n4 := [a, b, c, d]) (n5 := n5) rfl rfl) ?_
  refine sx_cons (law_kinds (n5 := n5) hA rfl rfl rfl (by kernel_rfl)) ?_
  refine sx_cons (law_lists rfl rfl) ?_
  refine sx_cons (σ' := σM [a, b, c, d] n5 d0 d1 d2 d3 s0 s1 s2 s3 f0 f1 f2 f3) (ms' := mM d0 d1 d2 d3 s0 s1 s2 s3 9) (word_loop H hA1) ?_
  refine sx_cons (law_sorted (d0 := d0) (d1 := d1) (d2 := d2) (d3 := d3) (s0 := s0) (s1 := s1) (s2 := s2) (s3 := s3) rfl rfl (by kernel_rfl)) ?_
  refine sx_release (x := Str.ofString "mails") (ds := mailsD d0 d1 d2 d3 s0 s1 s2 s3) (ms' := []) rfl (fun _ _ h => by simp at h) ?_
  refine sx_cons (law_leads (d0 := d0) (d1 := d1) (d2 := d2) (d3 := d3) rfl rfl (by kernel_rfl)) ?_
  refine sx_cons (law_chosen (nums := [a, b, c, d] ++ [n5]) rfl) ?_
  refine sx_pre (σ' := σN [a, b, c, d] n5 d0 d1 d2 d3 s0 s1 s2 s3 f0 f1 f2 f3 (([a, b, c, d] ++ [n5]).sum % 9)) (ms' := []) (sx_cons (want_loop H hA1 (Nat.mod_lt _ (by decide))) (sx_ret (se_return ee_bool))) (sub.lk ?_) (fun _ _ h => h)
  intro q hq
  simp only [σN, σH, List.mem_cons, List.not_mem_nil, or_false] at hq
  rcases hq with rfl | rfl | rfl | rfl | rfl | rfl | rfl | rfl <;> rfl
theorem law_true {A : Around} {n : Nat} (hA : Dp (n + 3) A) (xs : List Int) (hxs : xs.length ≤ 63) : CALL w A (.ref 106) [L (xs.map .int)] (B true) := by
  refine call_def (x := Str.ofString "law") (k := 69) (a := 106) (ps := [Str.ofString "script"]) (n := n + 2) (by decide +kernel) hA (fun pm cd doc vs hl => ?_) (by decide) rfl (by decide +kernel) (by decide +kernel) (fun A' hA' => law_body hA' xs hxs) rfl rfl rfl
  obtain ⟨v, rfl⟩ := List.length_eq_one_iff.mp hl
  rfl
end Mine
-- G26
namespace Mine
/-- the bound value, an int or a text -/
noncomputable def isI (i : Int) : Option (Option Value) → Bool | some (some (.int j _)) => i == j | _ => false
noncomputable def isS (x : Str) : Option (Option Value) → Bool | some (some (.str y _)) => x == y | _ => false
noncomputable def tabOf (o : Option Obj) : List ((Str × Tok) × (Int × Tok)) := match o with
  | some ⟨_, _, .dict es _, _⟩ => es.toList.filterMap fun e => match e.key, e.val with | .str x t, .int i u => some ((x, t), (i, u)) | _, _ => none
  | _ => []
noncomputable def epOf (o : Option Obj) : Nat := match o with | some ⟨_, _, .dict _ n, _⟩ => n | _ => 0
noncomputable def fieldAt (o : Option Obj) (i : Nat) : Value := match o with | some ⟨_, _, .fields fs, _⟩ => fs.getD i .none | _ => .none
noncomputable def entE (w : World) (p : (Str × Tok) × (Int × Tok)) : DictEntry := ⟨hashStr w p.1.1, .str p.1.1 p.1.2, .int p.2.1 p.2.2⟩
/-- what the heap behind the top must show -/
structure Shows (w : World) (K : Frag) (V : Program) : Prop where
  nt : isI 256 (nsIn K mainGlobals (Str.ofString "NT_OFFSET")) = true
  em : isI 0 (nsIn K mainGlobals (Str.ofString "ENDMARKER")) = true
  el : isS (Str.ofString "...") (nsIn K mainGlobals (Str.ofString "ELLIPSIS_MARKER")) = true
  cr : isS (Str.ofString "\x0d\n") (nsIn K mainGlobals (Str.ofString "CRLF")) = true
  len : nsIn K mainGlobals (Str.ofString "len") = some none
  sum : nsIn K mainGlobals (Str.ofString "sum") = some none
  sorted : nsIn K mainGlobals (Str.ofString "sorted") = some none
  range : nsIn K mainGlobals (Str.ofString "range") = some none
  fns : (ftab.map fun p => nsIn K mainGlobals p.1) = ftab.map fun p => some (some (.ref p.2.2))
  recs : ((recsOf V).map fun d => (d.name, d.params, d.body, d.scope)) = ftab.map fun p => (p.1, fArgs p.2.1, fBody p.2.1, fScope p.2.1)
  r1 : nsIn K mainGlobals (Str.ofString "_twin_re_1") = some (some (.ref 67))
  r2 : nsIn K mainGlobals (Str.ofString "_twin_re_2") = some (some (.ref 72))
  t1 : K.lookup 66 = some (rawTup code1)
  t2 : K.lookup 71 = some (rawTup code2)
  p1 : K.lookup 67 = some { cls := .type "re.Pattern", data := .fields #[fieldAt (K.lookup 67) 0, fieldAt (K.lookup 67) 1, rawInt 0, .none, .none, .ref 66, rawInt 0] }
  p2 : K.lookup 72 = some { cls := .type "re.Pattern", data := .fields #[fieldAt (K.lookup 72) 0, fieldAt (K.lookup 72) 1, rawInt 0, .none, .none, .ref 71, rawInt 0] }
  ex : nsIn K mainGlobals (Str.ofString "EXACT_TOKEN_TYPES") = some (some (.ref 32))
  d : K.lookup 32 = some { cls := .type "dict", data := .dict ((tabOf (K.lookup 32)).map (entE w)).toArray (epOf (K.lookup 32)) }
  dk : ((tabOf (K.lookup 32)).map fun p => (p.1.1, p.2.1)) = tokTab
  dt : ((tabOf (K.lookup 32)).all fun p => p.1.2 != 0 && decide (p.1.2 < 630)) = true
theorem boot_names : bootBuiltins (Str.ofString "len") = some (.builtin "len") ∧ bootBuiltins (Str.ofString "sum") = some (.builtin "sum") ∧ bootBuiltins (Str.ofString "sorted") = some (.builtin "sorted") ∧ bootBuiltins (Str.ofString "range") = some (.type "range") := ⟨by kernel_rfl, by kernel_rfl, by kernel_rfl, by kernel_rfl⟩
theorem tok_nodup : (tokTab.map (·.1)).Nodup := by decide +kernel
theorem find_is {es : List DictEntry} {x : Str} : es.find? (fun e => Value.isStrOf x e.key) = es.find? fun e => Value.isStrOf x e.key := rfl
theorem lookup_tab : ∀ (l : List ((Str × Tok) × (Int × Tok))) (k : Str), (match (l.map fun p => (p.1.1, p.2.1)).lookup k with | none => (l.map fun p => (p.1.1, Value.int p.2.1 p.2.2)).lookup k = none | some i => ∃ t, (l.map fun p => (p.1.1, Value.int p.2.1 p.2.2)).lookup k = some (.int i t))
  | [], k => rfl
  | p :: r, k => by
    rw [List.map_cons, List.map_cons, List.lookup_cons, List.lookup_cons]
    cases h : k == p.1.1 with
    | true => exact ⟨_, rfl⟩
    | false => exact lookup_tab r k
theorem pairs_tab (w : World) : ∀ (l : List ((Str × Tok) × (Int × Tok))), Pairs (strKind pg w) (l.map (entE w)) (l.map fun p => (p.1.1, Value.int p.2.1 p.2.2))
  | [] => .nil
  | p :: r => .cons (strKind_is pg w p.1.1 p.1.2) rfl (pairs_tab w r)
theorem valueAt_lookup : ∀ (l : List (Str × Value)) (k : Str), valueAt l k = l.lookup k
  | [], k => rfl
  | (x, v) :: r, k => by
    unfold valueAt
    rw [List.find?_cons, List.lookup_cons]
    by_cases h : x = k
    · subst h
      simp
    · have h1 : decide (x = k) = false := decide_eq_false h
      have h2 : (k == x) = false := by rw [beq_eq_false_iff_ne]; exact fun e => h e.symm
      simp only [h1, h2]
      exact valueAt_lookup r k
theorem gl_of {K : Frag} {V : Program} {loose : List Str} {mean : ExcName → Option Value} {mg mb : Str → Option Value} {w : World} {h : Heap} (KX : K.In h) (T : Top V loose mean mg mb h) (C : Shows w K V) : GL w h := by
  have glob : ∀ {x : Str} {v : Value}, nsIn K mainGlobals x = some (some v) → GN h x v := fun e => ⟨mg, mb, T.g, T.b, .inl (mg_of KX T.g e)⟩
  have built : ∀ {x : Str} {v : Value}, nsIn K mainGlobals x = some none → bootBuiltins x = some v → x ≠ Str.ofString "__name__" → GN h x v := fun e e2 hn => ⟨mg, mb, T.g, T.b, .inr ⟨mg_none_of KX T.g e, (T.builtins _ hn).trans e2⟩⟩
  have int : ∀ {x : Str} {i : Int}, isI i (nsIn K mainGlobals x) = true → ∃ t, GN h x (.int i t) := fun {x i} e => by
    unfold isI at e
    split at e
    · rename_i j t q
      obtain rfl := beq_iff_eq.mp e
      exact ⟨t, glob q⟩
    · cases e
  have str : ∀ {x y : Str}, isS y (nsIn K mainGlobals x) = true → ∃ t, GN h x (.str y t) := fun {x y} e => by
    unfold isS at e
    split at e
    · rename_i j t q
      obtain rfl := beq_iff_eq.mp e
      exact ⟨t, glob q⟩
    · cases e
  refine ⟨int C.nt, int C.em, str C.el, str C.cr, built C.len boot_names.1 (by decide), built C.sum boot_names.2.1 (by decide), built C.sorted boot_names.2.2.1 (by decide), built C.range boot_names.2.2.2 (by decide), fun p hp => ?_, ⟨glob C.r1, KX _ _ C.t1, _, _, KX _ _ C.p1⟩, ⟨glob C.r2, KX _ _ C.t2, _, _, KX _ _ C.p2⟩, ?_, T.nolimit⟩
  · have hg : nsIn K mainGlobals p.1 = some (some (.ref p.2.2)) := List.map_inj_left.mp C.fns p hp
    refine ⟨glob hg, ?_⟩
    have hm : (p.1, fArgs p.2.1, fBody p.2.1, fScope p.2.1) ∈ (recsOf V).map fun d => (d.name, d.params, d.body, d.scope) := by
      rw [C.recs]; exact List.mem_map.mpr ⟨p, hp, rfl⟩
    obtain ⟨d, hd, e⟩ := List.mem_map.mp hm
    obtain ⟨e1, e⟩ := Prod.mk.inj e
    obtain ⟨e2, e⟩ := Prod.mk.inj e
    obtain ⟨e3, e4⟩ := Prod.mk.inj e
    obtain ⟨a, o, pm, code, doc, h1, h2, h3, h4⟩ := T.fn d hd
    rw [e1] at h1 h3 h4
    rw [e2, e3, e4] at h3
    have h5 := mg_of KX T.g hg
    rw [h1] at h5
    obtain rfl : a = p.2.2 := by simpa using h5
    exact ⟨o, pm, code, doc, h2, h3, h4⟩
  · have hk : KeysOf (strKind pg w) ((tabOf (K.lookup 32)).map (entE w)).toArray := fun e he => by
      obtain ⟨p, hp, rfl⟩ := List.mem_map.mp (List.mem_toArray.mp he)
      exact ⟨p.1.1, strKind_is pg w p.1.1 p.1.2, rfl⟩
    have hp : Pairs (strKind pg w) (((tabOf (K.lookup 32)).map (entE w)).toArray).toList ((tabOf (K.lookup 32)).map (fun p => (p.1.1, Value.int p.2.1 p.2.2))) := pairs_tab w _
    have hnd : (((tabOf (K.lookup 32)).map (fun p => (p.1.1, Value.int p.2.1 p.2.2))).map (·.1)).Nodup := by
      have := tok_nodup
      rw [← C.dk, List.map_map] at this
      rw [List.map_map]
      exact this
    have hAt : h.DictAt (strKind pg w) 32 ((tabOf (K.lookup 32)).map (fun p => (p.1.1, Value.int p.2.1 p.2.2))) (epOf (K.lookup 32)) := ⟨_, _, KX _ _ C.d, ⟨rfl, rfl, rfl⟩, rfl, hk, hp, hnd⟩
    have hMap : h.MapOf (strKind pg w) 32 (fun k => ((tabOf (K.lookup 32)).map (fun p => (p.1.1, Value.int p.2.1 p.2.2))).lookup k) := by
      have hm := hAt.dictOf.mapOf
      have e : valueAt ((tabOf (K.lookup 32)).map (fun p => (p.1.1, Value.int p.2.1 p.2.2))) = fun k => ((tabOf (K.lookup 32)).map (fun p => (p.1.1, Value.int p.2.1 p.2.2))).lookup k := funext fun k => valueAt_lookup _ k
      rw [e] at hm
      exact hm
    refine ⟨glob C.ex, (tabOf (K.lookup 32)).map (fun p => (p.1.1, Value.int p.2.1 p.2.2)), epOf (K.lookup 32), hAt, hMap, ?_, fun k => ?_, _, _, KX _ _ C.d, rfl, fun e he x t hk => ?_⟩
    · rw [← C.dk, List.map_map, List.map_map]; rfl
    · have := lookup_tab (tabOf (K.lookup 32)) k
      rw [C.dk] at this
      exact this
    · obtain ⟨p, hp, rfl⟩ := List.mem_map.mp he
      have := List.all_eq_true.mp C.dt p hp
      simp only [Bool.and_eq_true, bne_iff_ne, ne_eq, decide_eq_true_eq] at this
      cases hk
      exact this
/-- beyond one list, the globals' facts stay -/
theorem gl_hole {w : World} {h : Heap} (G : GL w h) {a : Addr} (ha : 106 < a) (hl : ∃ o vs n, h.get? a = some o ∧ o.data = .seq vs n) : GL w (hole h [a]) := by
  have keep : ∀ b, b ≤ 106 → (hole h [a]).get? b = h.get? b := fun b hb => hole_out (fun q => by
    rw [List.mem_singleton.mp q] at hb
    exact Nat.lt_irrefl _ (Nat.lt_of_lt_of_le ha hb))
  have keep' : ∀ b o, b ≤ 106 → h.get? b = some o → (hole h [a]).get? b = some o := fun b o hb e => (keep b hb).trans e
  have ns : ∀ {b m}, b ≤ 106 → h.Ns b m → (hole h [a]).Ns b m := fun hb x => let ⟨o, es, ep, e, r⟩ := x; ⟨o, es, ep, keep' _ _ hb e, r⟩
  have gn : ∀ {x v}, GN h x v → GN (hole h [a]) x v := fun g => let ⟨mg, mb, p, q, c⟩ := g; ⟨mg, mb, ns (by decide) p, ns (by decide) q, c⟩
  have cd : ∀ {c x}, h.CodeRec c x → (hole h [a]).CodeRec c x := fun r => by
    obtain ⟨c, o, vs, t, e, g, d, r⟩ := r
    refine ⟨c, o, vs, t, e, ?_, d, r⟩
    rw [hole_out (fun q => ?_)]
    · exact g
    · obtain rfl := List.mem_singleton.mp q
      obtain ⟨o', vs', n, e1, e2⟩ := hl
      rw [g] at e1; cases e1; rw [d] at e2; cases e2
  have small : ∀ p ∈ ftab, p.2.2 ≤ 106 := by decide +kernel
  refine ⟨let ⟨t, x⟩ := G.nt; ⟨t, gn x⟩, let ⟨t, x⟩ := G.em; ⟨t, gn x⟩, let ⟨t, x⟩ := G.el; ⟨t, gn x⟩, let ⟨t, x⟩ := G.cr; ⟨t, gn x⟩, gn G.len, gn G.sum, gn G.sorted, gn G.range, fun p hp => ?_, ?_, ?_, ?_, ?_⟩
  · obtain ⟨g, o, pm, c, doc, h1, h2, h3⟩ := G.fn p hp
    exact ⟨gn g, o, pm, c, doc, keep' _ _ (small p hp) h1, h2, cd h3⟩
  · obtain ⟨g, b, p, f, c⟩ := G.re1
    exact ⟨gn g, keep' _ _ (by decide) b, p, f, keep' _ _ (by decide) c⟩
  · obtain ⟨g, b, p, f, c⟩ := G.re2
    exact ⟨gn g, keep' _ _ (by decide) b, p, f, keep' _ _ (by decide) c⟩
  · obtain ⟨g, kvs, ep, b, c, r1, r2, o, es, e1, r⟩ := G.ex
    refine ⟨gn g, kvs, ep, ?_, ?_, r1, r2, o, es, keep' _ _ (by decide) e1, r⟩
    · obtain ⟨o, es, h1, r⟩ := b; exact ⟨o, es, keep' _ _ (by decide) h1, r⟩
    · obtain ⟨o, es, ep, h1, r⟩ := c; exact ⟨o, es, ep, keep' _ _ (by decide) h1, r⟩
  · obtain ⟨mc, g, e⟩ := G.nl
    exact ⟨mc, ns (by decide) g, e⟩
theorem caller_dp : Dp 3 callerA := ⟨rfl, by decide +kernel, by decide +kernel⟩
theorem ints_all {M : List Addr} {h : Heap} : ∀ {vs : List Value} {ns : List Int}, IntsAre vs ns → IsAll M h (ns.map .int) vs := by
  intro vs ns x
  induction x with
  | nil => exact isAll_nil
  | cons i t r ih => exact isAll_cons is_int ih
/-- the call of the law, behind its top -/
theorem law_call {K : Frag} {V : Program} {loose : List Str} {mean : ExcName → Option Value} {mg mb : Str → Option Value} {w : World} {s : Shared} (KX : K.In s.heap) (T : Top V loose mean mg mb s.heap) (C : Shows w K V) (hsz : s.heap.objs.size = 107 + 1) (htk : 630 ≤ s.toks)
    {vs : List Value} {ns : List Int} (hL : s.heap.IsList 107 vs.toArray) (hI : IntsAre vs ns) (hn : ns.length ≤ 63) {Q : Value → Shared → Prop} {E : Value → Shared → Prop} (hQ : ∀ s', Keeps s s' → Q (.bool true) s') :
    wpAny (model pg w) callerA (call (.ref 106) [.ref 107]) Q E s := by
  have G := gl_of KX T C
  have G0 : GL w (hole s.heap [107]) := gl_hole G (by decide) (let ⟨o, h1, h2, n, h3⟩ := hL; ⟨o, _, n, h1, h3⟩)
  have cx : CX w callerA [] s := ⟨rfl, by decide +kernel, by decide +kernel, fun a ha => by simp at ha, ⟨hole s.heap [107], fun b o e => ?_, hole_up _ _, G0⟩, htk⟩
  · have key := ((law_true (w := w) caller_dp ns hn).run [] s.heap [.ref 107] ⟨.ref 107, [], rfl, toL (by simp) hL (by simpa using ints_all hI), rfl⟩).use (Q := Q) (E := E) (Up.refl _) cx fun v s' k c p => by
      rw [unB p]; exact hQ s' k
    exact key
  · by_cases hb : b ∈ [107]
    · rw [hole_in hb] at e; cases e
    · rw [hole_out hb] at e
      have := Heap.lt_size e
      rw [hsz] at this
      exact Nat.le_of_lt_succ (Nat.lt_of_le_of_ne (Nat.le_of_lt_succ this) fun q => hb (by rw [q]; simp))
end Mine
-- G27
namespace Mine
open PySem.W.X PySem.W.ZRun
/-! The top, run by the kernel in pieces: the heap behind the opening, at three places of the text, and at its end; then the looks at the last one. -/
noncomputable def kS (l : List Nat) (t : Nat) : Value := .str { cps := { toList := l } } t
noncomputable def kE (P : Params) (l : List Nat) (t : Nat) (v : Value) : DictEntry := { hash := PyData.keyHash P { cps := { toList := l } }, key := .str { cps := { toList := l } } t, val := v }
noncomputable def kT (l : List Nat) : Str := { cps := { toList := l } }
noncomputable def q0 (P : Params) : Obj := boot_o_0 P
noncomputable def q1 (P : Params) : Obj := ⟨.type "dict", none, (.dict #[kE P [98, 117, 105, 108, 116, 105, 110, 115] 162 (.ref 4),
    kE P [95, 95, 109, 97, 105, 110, 95, 95] 163 (.ref 5),
    kE P [95, 115, 114, 101] 244 (.ref 12)] 3), #[]⟩
noncomputable def q2 (P : Params) : Obj := ⟨.none, none, (.dict #[kE P [105, 109, 112, 111, 114, 116, 46, 108, 111, 97, 100, 101, 100, 46, 95, 115, 114, 101] 183 (.bool true),
    kE P [99, 108, 97, 115, 115, 46, 95, 102, 114, 111, 122, 101, 110, 95, 105, 109, 112, 111, 114, 116, 108, 105, 98, 46, 66, 117, 105, 108, 116, 105, 110, 73, 109, 112, 111, 114, 116, 101, 114] 185 (.ref 14),
    kE P [119, 97, 116, 99, 104, 101, 100, 46, 105, 109, 112, 111, 114, 116] 206 (.ref 18),
    kE P [99, 108, 97, 115, 115, 46, 95, 102, 114, 111, 122, 101, 110, 95, 105, 109, 112, 111, 114, 116, 108, 105, 98, 46, 77, 111, 100, 117, 108, 101, 83, 112, 101, 99] 216 (.ref 22),
    kE P [115, 121, 115, 46, 109, 111, 100, 117, 108, 101, 115, 46, 98, 111, 111, 107, 101, 100, 45, 101, 112, 111, 99, 104] 245 (.int 3 0),
    kE P [105, 109, 112, 111, 114, 116, 46, 108, 97, 116, 101, 114, 45, 108, 97, 105, 100, 46, 95, 115, 114, 101] 270 (.bool true),
    kE P [119, 97, 116, 99, 104, 101, 100, 46, 108, 105, 98, 114, 97, 114, 121] 272 (.ref 27),
    kE P [119, 97, 116, 99, 104, 101, 100, 46, 108, 105, 98, 114, 97, 114, 121, 45, 111, 98, 106, 101, 99, 116, 115] 0 (kS [12] 0),
    kE P [119, 97, 116, 99, 104, 101, 100, 46, 108, 105, 98, 114, 97, 114, 121, 45, 100, 101, 101, 112, 46, 95, 115, 114, 101] 273 (kS [4, 0, 0, 11, 4, 0, 0, 11, 4, 0, 0, 3, 4, 0, 0, 11, 8, 4, 100, 105, 99, 116, 2] 0)] 9), #[]⟩
noncomputable def q3 (P : Params) : Obj := ⟨.type "dict", none, (.dict #[kE P [95, 95, 110, 97, 109, 101, 95, 95] 165 (kS [95, 95, 109, 97, 105, 110, 95, 95] 164),
    kE P [95, 95, 100, 111, 99, 95, 95] 166 .none,
    kE P [95, 95, 112, 97, 99, 107, 97, 103, 101, 95, 95] 167 .none,
    kE P [95, 95, 108, 111, 97, 100, 101, 114, 95, 95] 168 (.builtin "__main__.__loader__#opaque"),
    kE P [95, 95, 115, 112, 101, 99, 95, 95] 169 .none,
    kE P [95, 95, 97, 110, 110, 111, 116, 97, 116, 105, 111, 110, 115, 95, 95] 170 (.ref 6),
    kE P [95, 95, 98, 117, 105, 108, 116, 105, 110, 115, 95, 95] 171 (.ref 4),
    kE P [95, 95, 102, 105, 108, 101, 95, 95] 173 (kS [47, 99, 108, 97, 105, 109, 47, 99, 117, 116, 46, 112, 121] 172),
    kE P [95, 95, 99, 97, 99, 104, 101, 100, 95, 95] 174 .none,
    kE P [95, 115, 114, 101] 275 (.ref 12)] 10), #[]⟩
noncomputable def q4 (P : Params) : Obj := ⟨.type "module", some 0, .plain, #[]⟩
noncomputable def q5 (P : Params) : Obj := ⟨.type "module", some 3, .plain, #[]⟩
noncomputable def q6 (P : Params) : Obj := ⟨.type "dict", none, (.dict #[] 0), #[]⟩
noncomputable def q7 (P : Params) : Obj := ⟨.type "tuple", none, (.seq #[] 0), #[]⟩
noncomputable def q8 (P : Params) : Obj := ⟨.none, none, (.fields #[]), #[]⟩
noncomputable def q9 (P : Params) : Obj := ⟨.type "code", none, (.fields #[kS [60, 109, 111, 100, 117, 108, 101, 62] 176, kS [60, 109, 111, 100, 117, 108, 101, 62] 177, kS [47, 99, 108, 97, 105, 109, 47, 99, 117, 116, 46, 112, 121] 178, .int 1 0, .int 0 0, .int 0 0, .int 0 0, .int 0 0, .ref 7, .bool false, .int 175 0, .ref 8, .none, .none, .none, .none, .int 179 0, .int 1 0, kS [47, 99, 108, 97, 105, 109, 47, 99, 117, 116, 46, 112, 121] 180]), #[]⟩
noncomputable def q10 (P : Params) : Obj := ⟨.type "frame", none, .plain, #[some (.ref 9), some (.ref 3), some (.ref 3), none, some (kS [95, 95, 109, 97, 105, 110, 95, 95] 164), none, some (.ref 0)]⟩
noncomputable def q11 (P : Params) : Obj := ⟨.type "dict", none, (.dict #[kE P [95, 95, 110, 97, 109, 101, 95, 95] 247 (kS [95, 115, 114, 101] 246),
    kE P [95, 95, 100, 111, 99, 95, 95] 248 .none,
    kE P [95, 95, 112, 97, 99, 107, 97, 103, 101, 95, 95] 250 (kS [] 249),
    kE P [95, 95, 108, 111, 97, 100, 101, 114, 95, 95] 251 (.builtin "off-the-table:_sre.__loader__:shared#opaque"),
    kE P [95, 95, 115, 112, 101, 99, 95, 95] 252 (.builtin "off-the-table:_sre.__spec__:shared#opaque"),
    kE P [99, 111, 109, 112, 105, 108, 101] 253 (.builtin "_sre.compile"),
    kE P [116, 101, 109, 112, 108, 97, 116, 101] 254 (.builtin "off-the-table:_sre.template:shared#opaque"),
    kE P [103, 101, 116, 99, 111, 100, 101, 115, 105, 122, 101] 255 (.builtin "off-the-table:_sre.getcodesize:shared#opaque"),
    kE P [97, 115, 99, 105, 105, 95, 105, 115, 99, 97, 115, 101, 100] 256 (.builtin "off-the-table:_sre.ascii_iscased:shared#opaque"),
    kE P [117, 110, 105, 99, 111, 100, 101, 95, 105, 115, 99, 97, 115, 101, 100] 257 (.builtin "off-the-table:_sre.unicode_iscased:shared#opaque"),
    kE P [97, 115, 99, 105, 105, 95, 116, 111, 108, 111, 119, 101, 114] 258 (.builtin "off-the-table:_sre.ascii_tolower:shared#opaque"),
    kE P [117, 110, 105, 99, 111, 100, 101, 95, 116, 111, 108, 111, 119, 101, 114] 259 (.builtin "off-the-table:_sre.unicode_tolower:shared#opaque"),
    kE P [77, 65, 71, 73, 67] 261 (.int 20230612 260),
    kE P [67, 79, 68, 69, 83, 73, 90, 69] 263 (.int 4 262),
    kE P [77, 65, 88, 82, 69, 80, 69, 65, 84] 265 (.int 4294967295 264),
    kE P [77, 65, 88, 71, 82, 79, 85, 80, 83] 267 (.int 1073741823 266),
    kE P [99, 111, 112, 121, 114, 105, 103, 104, 116] 269 (kS [32, 83, 82, 69, 32, 50, 46, 50, 46, 50, 32, 67, 111, 112, 121, 114, 105, 103, 104, 116, 32, 40, 99, 41, 32, 49, 57, 57, 55, 45, 50, 48, 48, 50, 32, 98, 121, 32, 83, 101, 99, 114, 101, 116, 32, 76, 97, 98, 115, 32, 65, 66, 32] 268)] 17), #[]⟩
noncomputable def q12 (P : Params) : Obj := ⟨.type "module", some 11, .plain, #[]⟩
noncomputable def q13 (P : Params) : Obj := ⟨.type "dict", none, (.dict #[kE P [95, 95, 109, 111, 100, 117, 108, 101, 95, 95] 189 (kS [95, 102, 114, 111, 122, 101, 110, 95, 105, 109, 112, 111, 114, 116, 108, 105, 98] 186),
    kE P [95, 95, 102, 105, 114, 115, 116, 108, 105, 110, 101, 110, 111, 95, 95] 190 (.int 971 187),
    kE P [95, 95, 100, 111, 99, 95, 95] 191 (.builtin "_frozen_importlib.BuiltinImporter.__doc__:str#opaque"),
    kE P [95, 79, 82, 73, 71, 73, 78] 192 (kS [98, 117, 105, 108, 116, 45, 105, 110] 188),
    kE P [102, 105, 110, 100, 95, 115, 112, 101, 99] 193 (.builtin "_frozen_importlib.BuiltinImporter.find_spec#opaque"),
    kE P [99, 114, 101, 97, 116, 101, 95, 109, 111, 100, 117, 108, 101] 194 (.builtin "_frozen_importlib.BuiltinImporter.create_module#opaque"),
    kE P [101, 120, 101, 99, 95, 109, 111, 100, 117, 108, 101] 195 (.builtin "_frozen_importlib.BuiltinImporter.exec_module#opaque"),
    kE P [103, 101, 116, 95, 99, 111, 100, 101] 196 (.builtin "_frozen_importlib.BuiltinImporter.get_code#opaque"),
    kE P [103, 101, 116, 95, 115, 111, 117, 114, 99, 101] 197 (.builtin "_frozen_importlib.BuiltinImporter.get_source#opaque"),
    kE P [105, 115, 95, 112, 97, 99, 107, 97, 103, 101] 198 (.builtin "_frozen_importlib.BuiltinImporter.is_package#opaque"),
    kE P [108, 111, 97, 100, 95, 109, 111, 100, 117, 108, 101] 199 (.builtin "_frozen_importlib.BuiltinImporter.load_module#opaque"),
    kE P [95, 95, 115, 116, 97, 116, 105, 99, 95, 97, 116, 116, 114, 105, 98, 117, 116, 101, 115, 95, 95] 200 (.ref 15),
    kE P [95, 95, 100, 105, 99, 116, 95, 95] 202 (.ref 16),
    kE P [95, 95, 119, 101, 97, 107, 114, 101, 102, 95, 95] 204 (.ref 17)] 14), #[]⟩
noncomputable def q14 (P : Params) : Obj := ⟨.type "type", none, (.cls ⟨(kT [66, 117, 105, 108, 116, 105, 110, 73, 109, 112, 111, 114, 116, 101, 114]), [.type "object"], [.ref 14, .type "object"], 13, (kT [66, 117, 105, 108, 116, 105, 110, 73, 109, 112, 111, 114, 116, 101, 114]), true, [], [], false, none, false⟩), #[]⟩
noncomputable def q15 (P : Params) : Obj := ⟨.type "getset_descriptor", none, (.fields #[kS [95, 95, 100, 105, 99, 116, 95, 95] 201, .ref 14, .builtin "function.__dict__", .builtin "function.__dict__#set"]), #[]⟩
noncomputable def q16 (P : Params) : Obj := ⟨.type "getset_descriptor", none, (.fields #[kS [95, 95, 119, 101, 97, 107, 114, 101, 102, 95, 95] 203, .ref 14, .builtin "ExceptionGroup.__weakref__", .none]), #[]⟩
noncomputable def q17 (P : Params) : Obj := ⟨.none, none, (.seq #[.int 13 0, kS [6, 189, 10, 95, 95, 109, 111, 100, 117, 108, 101, 95, 95, 6, 186, 17, 95, 102, 114, 111, 122, 101, 110, 95, 105, 109, 112, 111, 114, 116, 108, 105, 98, 6, 190, 15, 95, 95, 102, 105, 114, 115, 116, 108, 105, 110, 101, 110, 111, 95, 95, 4, 187, 0, 971, 6, 191, 7, 95, 95, 100, 111, 99, 95, 95, 9, 52, 95, 102, 114, 111, 122, 101, 110, 95, 105, 109, 112, 111, 114, 116, 108, 105, 98, 46, 66, 117, 105, 108, 116, 105, 110, 73, 109, 112, 111, 114, 116, 101, 114, 46, 95, 95, 100, 111, 99, 95, 95, 58, 115, 116, 114, 35, 111, 112, 97, 113, 117, 101, 6, 192, 7, 95, 79, 82, 73, 71, 73, 78, 6, 188, 8, 98, 117, 105, 108, 116, 45, 105, 110, 6, 193, 9, 102, 105, 110, 100, 95, 115, 112, 101, 99, 9, 50, 95, 102, 114, 111, 122, 101, 110, 95, 105, 109, 112, 111, 114, 116, 108, 105, 98, 46, 66, 117, 105, 108, 116, 105, 110, 73, 109, 112, 111, 114, 116, 101, 114, 46, 102, 105, 110, 100, 95, 115, 112, 101, 99, 35, 111, 112, 97, 113, 117, 101, 6, 194, 13, 99, 114, 101, 97, 116, 101, 95, 109, 111, 100, 117, 108, 101, 9, 54, 95, 102, 114, 111, 122, 101, 110, 95, 105, 109, 112, 111, 114, 116, 108, 105, 98, 46, 66, 117, 105, 108, 116, 105, 110, 73, 109, 112, 111, 114, 116, 101, 114, 46, 99, 114, 101, 97, 116, 101, 95, 109, 111, 100, 117, 108, 101, 35, 111, 112, 97, 113, 117, 101, 6, 195, 11, 101, 120, 101, 99, 95, 109, 111, 100, 117, 108, 101, 9, 52, 95, 102, 114, 111, 122, 101, 110, 95, 105, 109, 112, 111, 114, 116, 108, 105, 98, 46, 66, 117, 105, 108, 116, 105, 110, 73, 109, 112, 111, 114, 116, 101, 114, 46, 101, 120, 101, 99, 95, 109, 111, 100, 117, 108, 101, 35, 111, 112, 97, 113, 117, 101, 6, 196, 8, 103, 101, 116, 95, 99, 111, 100, 101, 9, 49, 95, 102, 114, 111, 122, 101, 110, 95, 105, 109, 112, 111, 114, 116, 108, 105, 98, 46, 66, 117, 105, 108, 116, 105, 110, 73, 109, 112, 111, 114, 116, 101, 114, 46, 103, 101, 116, 95, 99, 111, 100, 101, 35, 111, 112, 97, 113, 117, 101, 6, 197, 10, 103, 101, 116, 95, 115, 111, 117, 114, 99, 101, 9, 51, 95, 102, 114, 111, 122, 101, 110, 95, 105, 109, 112, 111, 114, 116, 108, 105, 98, 46, 66, 117, 105, 108, 116, 105, 110, 73, 109, 112, 111, 114, 116, 101, 114, 46, 103, 101, 116, 95, 115, 111, 117, 114, 99, 101, 35, 111, 112, 97, 113, 117, 101, 6, 198, 10, 105, 115, 95, 112, 97, 99, 107, 97, 103, 101, 9, 51, 95, 102, 114, 111, 122, 101, 110, 95, 105, 109, 112, 111, 114, 116, 108, 105, 98, 46, 66, 117, 105, 108, 116, 105, 110, 73, 109, 112, 111, 114, 116, 101, 114, 46, 105, 115, 95, 112, 97, 99, 107, 97, 103, 101, 35, 111, 112, 97, 113, 117, 101, 6, 199, 11, 108, 111, 97, 100, 95, 109, 111, 100, 117, 108, 101, 9, 52, 95, 102, 114, 111, 122, 101, 110, 95, 105, 109, 112, 111, 114, 116, 108, 105, 98, 46, 66, 117, 105, 108, 116, 105, 110, 73, 109, 112, 111, 114, 116, 101, 114, 46, 108, 111, 97, 100, 95, 109, 111, 100, 117, 108, 101, 35, 111, 112, 97, 113, 117, 101, 6, 200, 21, 95, 95, 115, 116, 97, 116, 105, 99, 95, 97, 116, 116, 114, 105, 98, 117, 116, 101, 115, 95, 95, 4, 0, 0, 15, 6, 202, 8, 95, 95, 100, 105, 99, 116, 95, 95, 4, 0, 0, 16, 6, 204, 11, 95, 95, 119, 101, 97, 107, 114, 101, 102, 95, 95, 4, 0, 0, 17] 0, .bool true, .bool true, kS [] 205, .int 21 0, kS [6, 227, 10, 95, 95, 109, 111, 100, 117, 108, 101, 95, 95, 6, 217, 17, 95, 102, 114, 111, 122, 101, 110, 95, 105, 109, 112, 111, 114, 116, 108, 105, 98, 6, 228, 15, 95, 95, 102, 105, 114, 115, 116, 108, 105, 110, 101, 110, 111, 95, 95, 4, 218, 0, 562, 6, 229, 7, 95, 95, 100, 111, 99, 95, 95, 9, 47, 95, 102, 114, 111, 122, 101, 110, 95, 105, 109, 112, 111, 114, 116, 108, 105, 98, 46, 77, 111, 100, 117, 108, 101, 83, 112, 101, 99, 46, 95, 95, 100, 111, 99, 95, 95, 58, 115, 116, 114, 35, 111, 112, 97, 113, 117, 101, 6, 230, 8, 95, 95, 105, 110, 105, 116, 95, 95, 9, 44, 95, 102, 114, 111, 122, 101, 110, 95, 105, 109, 112, 111, 114, 116, 108, 105, 98, 46, 77, 111, 100, 117, 108, 101, 83, 112, 101, 99, 46, 95, 95, 105, 110, 105, 116, 95, 95, 35, 111, 112, 97, 113, 117, 101, 6, 231, 8, 95, 95, 114, 101, 112, 114, 95, 95, 9, 44, 95, 102, 114, 111, 122, 101, 110, 95, 105, 109, 112, 111, 114, 116, 108, 105, 98, 46, 77, 111, 100, 117, 108, 101, 83, 112, 101, 99, 46, 95, 95, 114, 101, 112, 114, 95, 95, 35, 111, 112, 97, 113, 117, 101, 6, 232, 6, 95, 95, 101, 113, 95, 95, 9, 42, 95, 102, 114, 111, 122, 101, 110, 95, 105, 109, 112, 111, 114, 116, 108, 105, 98, 46, 77, 111, 100, 117, 108, 101, 83, 112, 101, 99, 46, 95, 95, 101, 113, 95, 95, 35, 111, 112, 97, 113, 117, 101, 6, 233, 6, 99, 97, 99, 104, 101, 100, 9, 42, 95, 102, 114, 111, 122, 101, 110, 95, 105, 109, 112, 111, 114, 116, 108, 105, 98, 46, 77, 111, 100, 117, 108, 101, 83, 112, 101, 99, 46, 99, 97, 99, 104, 101, 100, 35, 111, 112, 97, 113, 117, 101, 6, 234, 6, 112, 97, 114, 101, 110, 116, 9, 42, 95, 102, 114, 111, 122, 101, 110, 95, 105, 109, 112, 111, 114, 116, 108, 105, 98, 46, 77, 111, 100, 117, 108, 101, 83, 112, 101, 99, 46, 112, 97, 114, 101, 110, 116, 35, 111, 112, 97, 113, 117, 101, 6, 235, 12, 104, 97, 115, 95, 108, 111, 99, 97, 116, 105, 111, 110, 9, 48, 95, 102, 114, 111, 122, 101, 110, 95, 105, 109, 112, 111, 114, 116, 108, 105, 98, 46, 77, 111, 100, 117, 108, 101, 83, 112, 101, 99, 46, 104, 97, 115, 95, 108, 111, 99, 97, 116, 105, 111, 110, 35, 111, 112, 97, 113, 117, 101, 6, 236, 21, 95, 95, 115, 116, 97, 116, 105, 99, 95, 97, 116, 116, 114, 105, 98, 117, 116, 101, 115, 95, 95, 4, 0, 0, 23, 6, 238, 8, 95, 95, 100, 105, 99, 116, 95, 95, 4, 0, 0, 24, 6, 240, 11, 95, 95, 119, 101, 97, 107, 114, 101, 102, 95, 95, 4, 0, 0, 25, 6, 241, 8, 95, 95, 104, 97, 115, 104, 95, 95, 0] 0, .bool true, .bool true, kS [] 242] 1), #[]⟩
noncomputable def q18 (P : Params) : Obj := ⟨.type "list", none, (.seq #[] 0), #[]⟩
noncomputable def q19 (P : Params) : Obj := ⟨.type "dict", none, (.dict #[kE P [110, 97, 109, 101] 208 (kS [95, 115, 114, 101] 207),
    kE P [108, 111, 97, 100, 101, 114] 209 (.ref 14),
    kE P [111, 114, 105, 103, 105, 110] 210 (kS [98, 117, 105, 108, 116, 45, 105, 110] 184),
    kE P [108, 111, 97, 100, 101, 114, 95, 115, 116, 97, 116, 101] 211 .none,
    kE P [115, 117, 98, 109, 111, 100, 117, 108, 101, 95, 115, 101, 97, 114, 99, 104, 95, 108, 111, 99, 97, 116, 105, 111, 110, 115] 212 .none,
    kE P [95, 117, 110, 105, 110, 105, 116, 105, 97, 108, 105, 122, 101, 100, 95, 115, 117, 98, 109, 111, 100, 117, 108, 101, 115] 213 (.ref 19),
    kE P [95, 115, 101, 116, 95, 102, 105, 108, 101, 97, 116, 116, 114] 214 (.bool false),
    kE P [95, 99, 97, 99, 104, 101, 100] 215 .none,
    kE P [95, 105, 110, 105, 116, 105, 97, 108, 105, 122, 105, 110, 103] 243 (.bool false)] 9), #[]⟩
noncomputable def q20 (P : Params) : Obj := ⟨.type "dict", none, (.dict #[kE P [95, 95, 109, 111, 100, 117, 108, 101, 95, 95] 227 (kS [95, 102, 114, 111, 122, 101, 110, 95, 105, 109, 112, 111, 114, 116, 108, 105, 98] 217),
    kE P [95, 95, 102, 105, 114, 115, 116, 108, 105, 110, 101, 110, 111, 95, 95] 228 (.int 562 218),
    kE P [95, 95, 100, 111, 99, 95, 95] 229 (.builtin "_frozen_importlib.ModuleSpec.__doc__:str#opaque"),
    kE P [95, 95, 105, 110, 105, 116, 95, 95] 230 (.builtin "_frozen_importlib.ModuleSpec.__init__#opaque"),
    kE P [95, 95, 114, 101, 112, 114, 95, 95] 231 (.builtin "_frozen_importlib.ModuleSpec.__repr__#opaque"),
    kE P [95, 95, 101, 113, 95, 95] 232 (.builtin "_frozen_importlib.ModuleSpec.__eq__#opaque"),
    kE P [99, 97, 99, 104, 101, 100] 233 (.builtin "_frozen_importlib.ModuleSpec.cached#opaque"),
    kE P [112, 97, 114, 101, 110, 116] 234 (.builtin "_frozen_importlib.ModuleSpec.parent#opaque"),
    kE P [104, 97, 115, 95, 108, 111, 99, 97, 116, 105, 111, 110] 235 (.builtin "_frozen_importlib.ModuleSpec.has_location#opaque"),
    kE P [95, 95, 115, 116, 97, 116, 105, 99, 95, 97, 116, 116, 114, 105, 98, 117, 116, 101, 115, 95, 95] 236 (.ref 23),
    kE P [95, 95, 100, 105, 99, 116, 95, 95] 238 (.ref 24),
    kE P [95, 95, 119, 101, 97, 107, 114, 101, 102, 95, 95] 240 (.ref 25),
    kE P [95, 95, 104, 97, 115, 104, 95, 95] 241 .none] 13), #[]⟩
noncomputable def q21 (P : Params) : Obj := ⟨.type "type", none, (.cls ⟨(kT [77, 111, 100, 117, 108, 101, 83, 112, 101, 99]), [.type "object"], [.ref 22, .type "object"], 21, (kT [77, 111, 100, 117, 108, 101, 83, 112, 101, 99]), true, [], [], false, none, false⟩), #[]⟩
noncomputable def q22 (P : Params) : Obj := ⟨.type "tuple", none, (.seq #[kS [95, 99, 97, 99, 104, 101, 100] 219, kS [95, 115, 101, 116, 95, 102, 105, 108, 101, 97, 116, 116, 114] 220, kS [95, 117, 110, 105, 110, 105, 116, 105, 97, 108, 105, 122, 101, 100, 95, 115, 117, 98, 109, 111, 100, 117, 108, 101, 115] 221, kS [108, 111, 97, 100, 101, 114] 222, kS [108, 111, 97, 100, 101, 114, 95, 115, 116, 97, 116, 101] 223, kS [110, 97, 109, 101] 224, kS [111, 114, 105, 103, 105, 110] 225, kS [115, 117, 98, 109, 111, 100, 117, 108, 101, 95, 115, 101, 97, 114, 99, 104, 95, 108, 111, 99, 97, 116, 105, 111, 110, 115] 226] 0), #[]⟩
noncomputable def q23 (P : Params) : Obj := ⟨.type "getset_descriptor", none, (.fields #[kS [95, 95, 100, 105, 99, 116, 95, 95] 237, .ref 22, .builtin "function.__dict__", .builtin "function.__dict__#set"]), #[]⟩
noncomputable def q24 (P : Params) : Obj := ⟨.type "getset_descriptor", none, (.fields #[kS [95, 95, 119, 101, 97, 107, 114, 101, 102, 95, 95] 239, .ref 22, .builtin "ExceptionGroup.__weakref__", .none]), #[]⟩
noncomputable def q25 (P : Params) : Obj := ⟨.ref 22, some 20, .plain, #[]⟩
noncomputable def q26 (P : Params) : Obj := ⟨.none, none, (.seq #[.int 11 0, kS [6, 247, 8, 95, 95, 110, 97, 109, 101, 95, 95, 6, 246, 4, 95, 115, 114, 101, 6, 248, 7, 95, 95, 100, 111, 99, 95, 95, 0, 6, 250, 11, 95, 95, 112, 97, 99, 107, 97, 103, 101, 95, 95, 6, 249, 0, 6, 251, 10, 95, 95, 108, 111, 97, 100, 101, 114, 95, 95, 4, 0, 0, 14, 6, 252, 8, 95, 95, 115, 112, 101, 99, 95, 95, 4, 0, 0, 26, 6, 253, 7, 99, 111, 109, 112, 105, 108, 101, 9, 12, 95, 115, 114, 101, 46, 99, 111, 109, 112, 105, 108, 101, 6, 254, 8, 116, 101, 109, 112, 108, 97, 116, 101, 9, 13, 95, 115, 114, 101, 46, 116, 101, 109, 112, 108, 97, 116, 101, 6, 255, 11, 103, 101, 116, 99, 111, 100, 101, 115, 105, 122, 101, 9, 16, 95, 115, 114, 101, 46, 103, 101, 116, 99, 111, 100, 101, 115, 105, 122, 101, 6, 256, 13, 97, 115, 99, 105, 105, 95, 105, 115, 99, 97, 115, 101, 100, 9, 18, 95, 115, 114, 101, 46, 97, 115, 99, 105, 105, 95, 105, 115, 99, 97, 115, 101, 100, 6, 257, 15, 117, 110, 105, 99, 111, 100, 101, 95, 105, 115, 99, 97, 115, 101, 100, 9, 20, 95, 115, 114, 101, 46, 117, 110, 105, 99, 111, 100, 101, 95, 105, 115, 99, 97, 115, 101, 100, 6, 258, 13, 97, 115, 99, 105, 105, 95, 116, 111, 108, 111, 119, 101, 114, 9, 18, 95, 115, 114, 101, 46, 97, 115, 99, 105, 105, 95, 116, 111, 108, 111, 119, 101, 114, 6, 259, 15, 117, 110, 105, 99, 111, 100, 101, 95, 116, 111, 108, 111, 119, 101, 114, 9, 20, 95, 115, 114, 101, 46, 117, 110, 105, 99, 111, 100, 101, 95, 116, 111, 108, 111, 119, 101, 114, 6, 261, 5, 77, 65, 71, 73, 67, 4, 260, 0, 20230612, 6, 263, 8, 67, 79, 68, 69, 83, 73, 90, 69, 4, 262, 0, 4, 6, 265, 9, 77, 65, 88, 82, 69, 80, 69, 65, 84, 4, 264, 0, 4294967295, 6, 267, 9, 77, 65, 88, 71, 82, 79, 85, 80, 83, 4, 266, 0, 1073741823, 6, 269, 9, 99, 111, 112, 121, 114, 105, 103, 104, 116, 6, 268, 53, 32, 83, 82, 69, 32, 50, 46, 50, 46, 50, 32, 67, 111, 112, 121, 114, 105, 103, 104, 116, 32, 40, 99, 41, 32, 49, 57, 57, 55, 45, 50, 48, 48, 50, 32, 98, 121, 32, 83, 101, 99, 114, 101, 116, 32, 76, 97, 98, 115, 32, 65, 66, 32] 0, .bool true, .bool false, kS [95, 115, 114, 101] 271] 0), #[]⟩
noncomputable def q27 (P : Params) : Obj := ⟨.type "code", none, (.fields #[kS [60, 109, 111, 100, 117, 108, 101, 62] 277, kS [60, 109, 111, 100, 117, 108, 101, 62] 278, kS [47, 99, 108, 97, 105, 109, 47, 99, 117, 116, 46, 112, 121] 279, .int 1 0, .int 0 0, .int 0 0, .int 0 0, .int 0 0, .ref 28, .bool false, .int 276 0, .ref 29, .none, .none, .none, .none, .int 280 0, .int 1 0, kS [47, 99, 108, 97, 105, 109, 47, 99, 117, 116, 46, 112, 121] 281]), #[]⟩
noncomputable def q28 (P : Params) : Obj := ⟨.type "frame", none, .plain, #[some (.ref 30), some (.ref 3), some (.ref 3), none, some (kS [95, 95, 109, 97, 105, 110, 95, 95] 164), none, some (.ref 0)]⟩
noncomputable def q29 (P : Params) : Obj := ⟨.type "dict", none, (.dict #[kE P [95, 95, 110, 97, 109, 101, 95, 95] 165 (kS [99, 112, 121, 51, 49, 51, 46, 116, 111, 107, 101, 110] 282),
    kE P [95, 95, 100, 111, 99, 95, 95] 166 .none,
    kE P [95, 95, 112, 97, 99, 107, 97, 103, 101, 95, 95] 167 .none,
    kE P [95, 95, 108, 111, 97, 100, 101, 114, 95, 95] 168 (.builtin "__main__.__loader__#opaque"),
    kE P [95, 95, 115, 112, 101, 99, 95, 95] 169 .none,
    kE P [95, 95, 97, 110, 110, 111, 116, 97, 116, 105, 111, 110, 115, 95, 95] 170 (.ref 6),
    kE P [95, 95, 98, 117, 105, 108, 116, 105, 110, 115, 95, 95] 171 (.ref 4),
    kE P [95, 95, 102, 105, 108, 101, 95, 95] 173 (kS [47, 99, 108, 97, 105, 109, 47, 99, 117, 116, 46, 112, 121] 172),
    kE P [95, 95, 99, 97, 99, 104, 101, 100, 95, 95] 174 .none,
    kE P [95, 115, 114, 101] 275 (.ref 12),
    kE P [69, 78, 68, 77, 65, 82, 75, 69, 82] 285 (.int 0 284),
    kE P [76, 80, 65, 82] 287 (.int 7 286),
    kE P [82, 80, 65, 82] 289 (.int 8 288),
    kE P [76, 83, 81, 66] 291 (.int 9 290),
    kE P [82, 83, 81, 66] 293 (.int 10 292),
    kE P [67, 79, 76, 79, 78] 295 (.int 11 294),
    kE P [67, 79, 77, 77, 65] 297 (.int 12 296),
    kE P [83, 69, 77, 73] 299 (.int 13 298),
    kE P [80, 76, 85, 83] 301 (.int 14 300),
    kE P [77, 73, 78, 85, 83] 303 (.int 15 302),
    kE P [83, 84, 65, 82] 305 (.int 16 304),
    kE P [83, 76, 65, 83, 72] 307 (.int 17 306),
    kE P [86, 66, 65, 82] 309 (.int 18 308),
    kE P [65, 77, 80, 69, 82] 311 (.int 19 310),
    kE P [76, 69, 83, 83] 313 (.int 20 312),
    kE P [71, 82, 69, 65, 84, 69, 82] 315 (.int 21 314),
    kE P [69, 81, 85, 65, 76] 317 (.int 22 316),
    kE P [68, 79, 84] 319 (.int 23 318),
    kE P [80, 69, 82, 67, 69, 78, 84] 321 (.int 24 320),
    kE P [76, 66, 82, 65, 67, 69] 323 (.int 25 322),
    kE P [82, 66, 82, 65, 67, 69] 325 (.int 26 324),
    kE P [69, 81, 69, 81, 85, 65, 76] 327 (.int 27 326),
    kE P [78, 79, 84, 69, 81, 85, 65, 76] 329 (.int 28 328),
    kE P [76, 69, 83, 83, 69, 81, 85, 65, 76] 331 (.int 29 330),
    kE P [71, 82, 69, 65, 84, 69, 82, 69, 81, 85, 65, 76] 333 (.int 30 332),
    kE P [84, 73, 76, 68, 69] 335 (.int 31 334),
    kE P [67, 73, 82, 67, 85, 77, 70, 76, 69, 88] 337 (.int 32 336),
    kE P [76, 69, 70, 84, 83, 72, 73, 70, 84] 339 (.int 33 338),
    kE P [82, 73, 71, 72, 84, 83, 72, 73, 70, 84] 341 (.int 34 340),
    kE P [68, 79, 85, 66, 76, 69, 83, 84, 65, 82] 343 (.int 35 342),
    kE P [80, 76, 85, 83, 69, 81, 85, 65, 76] 345 (.int 36 344),
    kE P [77, 73, 78, 69, 81, 85, 65, 76] 347 (.int 37 346),
    kE P [83, 84, 65, 82, 69, 81, 85, 65, 76] 349 (.int 38 348),
    kE P [83, 76, 65, 83, 72, 69, 81, 85, 65, 76] 351 (.int 39 350),
    kE P [80, 69, 82, 67, 69, 78, 84, 69, 81, 85, 65, 76] 353 (.int 40 352),
    kE P [65, 77, 80, 69, 82, 69, 81, 85, 65, 76] 355 (.int 41 354),
    kE P [86, 66, 65, 82, 69, 81, 85, 65, 76] 357 (.int 42 356),
    kE P [67, 73, 82, 67, 85, 77, 70, 76, 69, 88, 69, 81, 85, 65, 76] 359 (.int 43 358),
    kE P [76, 69, 70, 84, 83, 72, 73, 70, 84, 69, 81, 85, 65, 76] 361 (.int 44 360),
    kE P [82, 73, 71, 72, 84, 83, 72, 73, 70, 84, 69, 81, 85, 65, 76] 363 (.int 45 362),
    kE P [68, 79, 85, 66, 76, 69, 83, 84, 65, 82, 69, 81, 85, 65, 76] 365 (.int 46 364),
    kE P [68, 79, 85, 66, 76, 69, 83, 76, 65, 83, 72] 367 (.int 47 366),
    kE P [68, 79, 85, 66, 76, 69, 83, 76, 65, 83, 72, 69, 81, 85, 65, 76] 369 (.int 48 368),
    kE P [65, 84] 371 (.int 49 370),
    kE P [65, 84, 69, 81, 85, 65, 76] 373 (.int 50 372),
    kE P [82, 65, 82, 82, 79, 87] 375 (.int 51 374),
    kE P [69, 76, 76, 73, 80, 83, 73, 83] 377 (.int 52 376),
    kE P [67, 79, 76, 79, 78, 69, 81, 85, 65, 76] 379 (.int 53 378),
    kE P [69, 88, 67, 76, 65, 77, 65, 84, 73, 79, 78] 381 (.int 54 380),
    kE P [78, 84, 95, 79, 70, 70, 83, 69, 84] 383 (.int 256 382)] 60), #[]⟩
noncomputable def q30 (P : Params) : Obj := ⟨.type "dict", none, (.dict #[kE P [95, 95, 110, 97, 109, 101, 95, 95] 165 (kS [99, 112, 121, 51, 49, 51, 46, 116, 111, 107, 101, 110] 282),
    kE P [95, 95, 100, 111, 99, 95, 95] 166 .none,
    kE P [95, 95, 112, 97, 99, 107, 97, 103, 101, 95, 95] 167 .none,
    kE P [95, 95, 108, 111, 97, 100, 101, 114, 95, 95] 168 (.builtin "__main__.__loader__#opaque"),
    kE P [95, 95, 115, 112, 101, 99, 95, 95] 169 .none,
    kE P [95, 95, 97, 110, 110, 111, 116, 97, 116, 105, 111, 110, 115, 95, 95] 170 (.ref 6),
    kE P [95, 95, 98, 117, 105, 108, 116, 105, 110, 115, 95, 95] 171 (.ref 4),
    kE P [95, 95, 102, 105, 108, 101, 95, 95] 173 (kS [47, 99, 108, 97, 105, 109, 47, 99, 117, 116, 46, 112, 121] 172),
    kE P [95, 95, 99, 97, 99, 104, 101, 100, 95, 95] 174 .none,
    kE P [95, 115, 114, 101] 275 (.ref 12),
    kE P [69, 78, 68, 77, 65, 82, 75, 69, 82] 285 (.int 0 284),
    kE P [76, 80, 65, 82] 287 (.int 7 286),
    kE P [82, 80, 65, 82] 289 (.int 8 288),
    kE P [76, 83, 81, 66] 291 (.int 9 290),
    kE P [82, 83, 81, 66] 293 (.int 10 292),
    kE P [67, 79, 76, 79, 78] 295 (.int 11 294),
    kE P [67, 79, 77, 77, 65] 297 (.int 12 296),
    kE P [83, 69, 77, 73] 299 (.int 13 298),
    kE P [80, 76, 85, 83] 301 (.int 14 300),
    kE P [77, 73, 78, 85, 83] 303 (.int 15 302),
    kE P [83, 84, 65, 82] 305 (.int 16 304),
    kE P [83, 76, 65, 83, 72] 307 (.int 17 306),
    kE P [86, 66, 65, 82] 309 (.int 18 308),
    kE P [65, 77, 80, 69, 82] 311 (.int 19 310),
    kE P [76, 69, 83, 83] 313 (.int 20 312),
    kE P [71, 82, 69, 65, 84, 69, 82] 315 (.int 21 314),
    kE P [69, 81, 85, 65, 76] 317 (.int 22 316),
    kE P [68, 79, 84] 319 (.int 23 318),
    kE P [80, 69, 82, 67, 69, 78, 84] 321 (.int 24 320),
    kE P [76, 66, 82, 65, 67, 69] 323 (.int 25 322),
    kE P [82, 66, 82, 65, 67, 69] 325 (.int 26 324),
    kE P [69, 81, 69, 81, 85, 65, 76] 327 (.int 27 326),
    kE P [78, 79, 84, 69, 81, 85, 65, 76] 329 (.int 28 328),
    kE P [76, 69, 83, 83, 69, 81, 85, 65, 76] 331 (.int 29 330),
    kE P [71, 82, 69, 65, 84, 69, 82, 69, 81, 85, 65, 76] 333 (.int 30 332),
    kE P [84, 73, 76, 68, 69] 335 (.int 31 334),
    kE P [67, 73, 82, 67, 85, 77, 70, 76, 69, 88] 337 (.int 32 336),
    kE P [76, 69, 70, 84, 83, 72, 73, 70, 84] 339 (.int 33 338),
    kE P [82, 73, 71, 72, 84, 83, 72, 73, 70, 84] 341 (.int 34 340),
    kE P [68, 79, 85, 66, 76, 69, 83, 84, 65, 82] 343 (.int 35 342),
    kE P [80, 76, 85, 83, 69, 81, 85, 65, 76] 345 (.int 36 344),
    kE P [77, 73, 78, 69, 81, 85, 65, 76] 347 (.int 37 346),
    kE P [83, 84, 65, 82, 69, 81, 85, 65, 76] 349 (.int 38 348),
    kE P [83, 76, 65, 83, 72, 69, 81, 85, 65, 76] 351 (.int 39 350),
    kE P [80, 69, 82, 67, 69, 78, 84, 69, 81, 85, 65, 76] 353 (.int 40 352),
    kE P [65, 77, 80, 69, 82, 69, 81, 85, 65, 76] 355 (.int 41 354),
    kE P [86, 66, 65, 82, 69, 81, 85, 65, 76] 357 (.int 42 356),
    kE P [67, 73, 82, 67, 85, 77, 70, 76, 69, 88, 69, 81, 85, 65, 76] 359 (.int 43 358),
    kE P [76, 69, 70, 84, 83, 72, 73, 70, 84, 69, 81, 85, 65, 76] 361 (.int 44 360),
    kE P [82, 73, 71, 72, 84, 83, 72, 73, 70, 84, 69, 81, 85, 65, 76] 363 (.int 45 362),
    kE P [68, 79, 85, 66, 76, 69, 83, 84, 65, 82, 69, 81, 85, 65, 76] 365 (.int 46 364),
    kE P [68, 79, 85, 66, 76, 69, 83, 76, 65, 83, 72] 367 (.int 47 366),
    kE P [68, 79, 85, 66, 76, 69, 83, 76, 65, 83, 72, 69, 81, 85, 65, 76] 369 (.int 48 368),
    kE P [65, 84] 371 (.int 49 370),
    kE P [65, 84, 69, 81, 85, 65, 76] 373 (.int 50 372),
    kE P [82, 65, 82, 82, 79, 87] 375 (.int 51 374),
    kE P [69, 76, 76, 73, 80, 83, 73, 83] 377 (.int 52 376),
    kE P [67, 79, 76, 79, 78, 69, 81, 85, 65, 76] 379 (.int 53 378),
    kE P [69, 88, 67, 76, 65, 77, 65, 84, 73, 79, 78] 381 (.int 54 380),
    kE P [78, 84, 95, 79, 70, 70, 83, 69, 84] 383 (.int 256 382),
    kE P [69, 88, 65, 67, 84, 95, 84, 79, 75, 69, 78, 95, 84, 89, 80, 69, 83] 480 (.ref 32)] 61), #[]⟩
noncomputable def q31 (P : Params) : Obj := ⟨.type "dict", none, (.dict #[kE P [33] 384 (.int 54 380),
    kE P [33, 61] 386 (.int 28 328),
    kE P [37] 388 (.int 24 320),
    kE P [37, 61] 390 (.int 40 352),
    kE P [38] 392 (.int 19 310),
    kE P [38, 61] 394 (.int 41 354),
    kE P [40] 396 (.int 7 286),
    kE P [41] 398 (.int 8 288),
    kE P [42] 400 (.int 16 304),
    kE P [42, 42] 402 (.int 35 342),
    kE P [42, 42, 61] 404 (.int 46 364),
    kE P [42, 61] 406 (.int 38 348),
    kE P [43] 408 (.int 14 300),
    kE P [43, 61] 410 (.int 36 344),
    kE P [44] 412 (.int 12 296),
    kE P [45] 414 (.int 15 302),
    kE P [45, 61] 416 (.int 37 346),
    kE P [45, 62] 418 (.int 51 374),
    kE P [46] 420 (.int 23 318),
    kE P [46, 46, 46] 422 (.int 52 376),
    kE P [47] 424 (.int 17 306),
    kE P [47, 47] 426 (.int 47 366),
    kE P [47, 47, 61] 428 (.int 48 368),
    kE P [47, 61] 430 (.int 39 350),
    kE P [58] 432 (.int 11 294),
    kE P [58, 61] 434 (.int 53 378),
    kE P [59] 436 (.int 13 298),
    kE P [60] 438 (.int 20 312),
    kE P [60, 60] 440 (.int 33 338),
    kE P [60, 60, 61] 442 (.int 44 360),
    kE P [60, 61] 444 (.int 29 330),
    kE P [61] 446 (.int 22 316),
    kE P [61, 61] 448 (.int 27 326),
    kE P [62] 450 (.int 21 314),
    kE P [62, 61] 452 (.int 30 332),
    kE P [62, 62] 453 (.int 34 340),
    kE P [62, 62, 61] 454 (.int 45 362),
    kE P [64] 455 (.int 49 370),
    kE P [64, 61] 456 (.int 50 372),
    kE P [91] 457 (.int 9 290),
    kE P [93] 458 (.int 10 292),
    kE P [94] 459 (.int 32 336),
    kE P [94, 61] 460 (.int 43 358),
    kE P [123] 461 (.int 25 322),
    kE P [124] 462 (.int 18 308),
    kE P [124, 61] 463 (.int 42 356),
    kE P [125] 464 (.int 26 324),
    kE P [126] 465 (.int 31 334)] 48), #[]⟩
noncomputable def q32 (P : Params) : Obj := ⟨.type "dict", none, (.dict #[kE P [45, 62] 418 (.int 51 374),
    kE P [46] 420 (.int 23 318),
    kE P [46, 46, 46] 422 (.int 52 376),
    kE P [47] 424 (.int 17 306),
    kE P [47, 47] 426 (.int 47 366),
    kE P [47, 47, 61] 428 (.int 48 368),
    kE P [47, 61] 430 (.int 39 350),
    kE P [58] 432 (.int 11 294),
    kE P [58, 61] 434 (.int 53 378),
    kE P [59] 436 (.int 13 298),
    kE P [60] 438 (.int 20 312),
    kE P [60, 60] 440 (.int 33 338),
    kE P [60, 60, 61] 442 (.int 44 360),
    kE P [60, 61] 444 (.int 29 330),
    kE P [61] 446 (.int 22 316),
    kE P [61, 61] 448 (.int 27 326),
    kE P [62] 450 (.int 21 314)] 17), #[]⟩
noncomputable def q33 (P : Params) : Obj := ⟨.type "dict", none, (.dict #[kE P [62, 61] 452 (.int 30 332),
    kE P [62, 62] 453 (.int 34 340),
    kE P [62, 62, 61] 454 (.int 45 362),
    kE P [64] 455 (.int 49 370),
    kE P [64, 61] 456 (.int 50 372),
    kE P [91] 457 (.int 9 290),
    kE P [93] 458 (.int 10 292),
    kE P [94] 459 (.int 32 336),
    kE P [94, 61] 460 (.int 43 358),
    kE P [123] 461 (.int 25 322),
    kE P [124] 462 (.int 18 308),
    kE P [124, 61] 463 (.int 42 356),
    kE P [125] 464 (.int 26 324),
    kE P [126] 465 (.int 31 334)] 14), #[]⟩
noncomputable def q34 (P : Params) : Obj := ⟨.type "dict", none, (.dict #[kE P [95, 95, 110, 97, 109, 101, 95, 95] 165 (kS [108, 97, 119, 95, 114, 119, 48, 48, 54, 50, 95, 48, 49] 587),
    kE P [95, 95, 100, 111, 99, 95, 95] 166 .none,
    kE P [95, 95, 112, 97, 99, 107, 97, 103, 101, 95, 95] 167 .none,
    kE P [95, 95, 108, 111, 97, 100, 101, 114, 95, 95] 168 (.builtin "__main__.__loader__#opaque"),
    kE P [95, 95, 115, 112, 101, 99, 95, 95] 169 .none,
    kE P [95, 95, 97, 110, 110, 111, 116, 97, 116, 105, 111, 110, 115, 95, 95] 170 (.ref 6),
    kE P [95, 95, 98, 117, 105, 108, 116, 105, 110, 115, 95, 95] 171 (.ref 4),
    kE P [95, 95, 102, 105, 108, 101, 95, 95] 173 (kS [47, 99, 108, 97, 105, 109, 47, 99, 117, 116, 46, 112, 121] 172),
    kE P [95, 95, 99, 97, 99, 104, 101, 100, 95, 95] 174 .none,
    kE P [95, 115, 114, 101] 275 (.ref 12),
    kE P [69, 78, 68, 77, 65, 82, 75, 69, 82] 285 (.int 0 284),
    kE P [76, 80, 65, 82] 287 (.int 7 286),
    kE P [82, 80, 65, 82] 289 (.int 8 288),
    kE P [76, 83, 81, 66] 291 (.int 9 290),
    kE P [82, 83, 81, 66] 293 (.int 10 292),
    kE P [67, 79, 76, 79, 78] 295 (.int 11 294),
    kE P [67, 79, 77, 77, 65] 297 (.int 12 296),
    kE P [83, 69, 77, 73] 299 (.int 13 298),
    kE P [80, 76, 85, 83] 301 (.int 14 300),
    kE P [77, 73, 78, 85, 83] 303 (.int 15 302),
    kE P [83, 84, 65, 82] 305 (.int 16 304),
    kE P [83, 76, 65, 83, 72] 307 (.int 17 306),
    kE P [86, 66, 65, 82] 309 (.int 18 308),
    kE P [65, 77, 80, 69, 82] 311 (.int 19 310),
    kE P [76, 69, 83, 83] 313 (.int 20 312),
    kE P [71, 82, 69, 65, 84, 69, 82] 315 (.int 21 314),
    kE P [69, 81, 85, 65, 76] 317 (.int 22 316),
    kE P [68, 79, 84] 319 (.int 23 318),
    kE P [80, 69, 82, 67, 69, 78, 84] 321 (.int 24 320),
    kE P [76, 66, 82, 65, 67, 69] 323 (.int 25 322),
    kE P [82, 66, 82, 65, 67, 69] 325 (.int 26 324),
    kE P [69, 81, 69, 81, 85, 65, 76] 327 (.int 27 326),
    kE P [78, 79, 84, 69, 81, 85, 65, 76] 329 (.int 28 328),
    kE P [76, 69, 83, 83, 69, 81, 85, 65, 76] 331 (.int 29 330),
    kE P [71, 82, 69, 65, 84, 69, 82, 69, 81, 85, 65, 76] 333 (.int 30 332),
    kE P [84, 73, 76, 68, 69] 335 (.int 31 334),
    kE P [67, 73, 82, 67, 85, 77, 70, 76, 69, 88] 337 (.int 32 336),
    kE P [76, 69, 70, 84, 83, 72, 73, 70, 84] 339 (.int 33 338),
    kE P [82, 73, 71, 72, 84, 83, 72, 73, 70, 84] 341 (.int 34 340),
    kE P [68, 79, 85, 66, 76, 69, 83, 84, 65, 82] 343 (.int 35 342),
    kE P [80, 76, 85, 83, 69, 81, 85, 65, 76] 345 (.int 36 344),
    kE P [77, 73, 78, 69, 81, 85, 65, 76] 347 (.int 37 346),
    kE P [83, 84, 65, 82, 69, 81, 85, 65, 76] 349 (.int 38 348),
    kE P [83, 76, 65, 83, 72, 69, 81, 85, 65, 76] 351 (.int 39 350),
    kE P [80, 69, 82, 67, 69, 78, 84, 69, 81, 85, 65, 76] 353 (.int 40 352),
    kE P [65, 77, 80, 69, 82, 69, 81, 85, 65, 76] 355 (.int 41 354),
    kE P [86, 66, 65, 82, 69, 81, 85, 65, 76] 357 (.int 42 356),
    kE P [67, 73, 82, 67, 85, 77, 70, 76, 69, 88, 69, 81, 85, 65, 76] 359 (.int 43 358),
    kE P [76, 69, 70, 84, 83, 72, 73, 70, 84, 69, 81, 85, 65, 76] 361 (.int 44 360),
    kE P [82, 73, 71, 72, 84, 83, 72, 73, 70, 84, 69, 81, 85, 65, 76] 363 (.int 45 362),
    kE P [68, 79, 85, 66, 76, 69, 83, 84, 65, 82, 69, 81, 85, 65, 76] 365 (.int 46 364),
    kE P [68, 79, 85, 66, 76, 69, 83, 76, 65, 83, 72] 367 (.int 47 366),
    kE P [68, 79, 85, 66, 76, 69, 83, 76, 65, 83, 72, 69, 81, 85, 65, 76] 369 (.int 48 368),
    kE P [65, 84] 371 (.int 49 370),
    kE P [65, 84, 69, 81, 85, 65, 76] 373 (.int 50 372),
    kE P [82, 65, 82, 82, 79, 87] 375 (.int 51 374),
    kE P [69, 76, 76, 73, 80, 83, 73, 83] 377 (.int 52 376),
    kE P [67, 79, 76, 79, 78, 69, 81, 85, 65, 76] 379 (.int 53 378),
    kE P [69, 88, 67, 76, 65, 77, 65, 84, 73, 79, 78] 381 (.int 54 380),
    kE P [78, 84, 95, 79, 70, 70, 83, 69, 84] 383 (.int 256 382),
    kE P [69, 88, 65, 67, 84, 95, 84, 79, 75, 69, 78, 95, 84, 89, 80, 69, 83] 480 (.ref 32),
    kE P [73, 83, 84, 69, 82, 77, 73, 78, 65, 76] 487 (.ref 41),
    kE P [73, 83, 78, 79, 78, 84, 69, 82, 77, 73, 78, 65, 76] 494 (.ref 48),
    kE P [73, 83, 69, 79, 70] 501 (.ref 55),
    kE P [69, 76, 76, 73, 80, 83, 73, 83, 95, 77, 65, 82, 75, 69, 82] 505 (kS [46, 46, 46] 504),
    kE P [95, 101, 108, 108, 105, 112, 115, 105, 115, 95, 109, 97, 116, 99, 104] 517 (.ref 62),
    kE P [95, 116, 119, 105, 110, 95, 114, 101, 95, 49] 535 (.ref 67),
    kE P [95, 116, 119, 105, 110, 95, 114, 101, 95, 50] 577 (.ref 72),
    kE P [67, 82, 76, 70] 579 (kS [13, 10] 578),
    kE P [113, 117, 111, 116, 101, 100, 97, 116, 97] 586 (.ref 79),
    kE P [95, 108, 97, 119, 95, 110, 117, 109, 98, 101, 114, 115] 594 (.ref 84),
    kE P [95, 108, 97, 119, 95, 107, 105, 110, 100] 600 (.ref 89),
    kE P [95, 108, 97, 119, 95, 119, 111, 114, 100, 115] 617 (.ref 96),
    kE P [95, 108, 97, 119, 95, 114, 111, 119, 115] 623 (.ref 101),
    kE P [108, 97, 119] 629 (.ref 106)] 75), #[]⟩
noncomputable def q35 (P : Params) : Obj := ⟨.none, none, (.fields #[.int 54 0, .int 0 0, .ref 40, .int 56 0, .int 0 0, .ref 47, .int 58 0, .int 0 0, .ref 54, .int 62 0, .int 0 0, .ref 61, .int 94 0, .int 0 0, .ref 78, .int 97 0, .int 0 0, .ref 83, .int 99 0, .int 0 0, .ref 88, .int 105 0, .int 0 0, .ref 95, .int 119 0, .int 0 0, .ref 100, .int 121 0, .int 0 0, .ref 105]), #[]⟩
noncomputable def q36 (P : Params) : Obj := ⟨.type "tuple", none, (.seq #[kS [120] 484] 0), #[]⟩
noncomputable def q37 (P : Params) : Obj := ⟨.none, none, (.func ⟨(kT [73, 83, 84, 69, 82, 77, 73, 78, 65, 76]), (kT [73, 83, 84, 69, 82, 77, 73, 78, 65, 76]), fArgs 53, (.stmts (fBody 53)), fScope 53, 0, [], .none, .none, .none, .none, none, .none, .none, 0⟩), #[]⟩
noncomputable def q38 (P : Params) : Obj := ⟨.type "code", none, (.fields #[kS [73, 83, 84, 69, 82, 77, 73, 78, 65, 76] 481, kS [73, 83, 84, 69, 82, 77, 73, 78, 65, 76] 482, kS [47, 99, 108, 97, 105, 109, 47, 99, 117, 116, 46, 112, 121] 483, .int 54 0, .int 1 0, .int 0 0, .int 0 0, .int 3 0, .ref 35, .bool true, .int 276 0, .ref 36, .none, .ref 37, .ref 38, .ref 39, .int 485 0, .int 54 0, kS [47, 99, 108, 97, 105, 109, 47, 99, 117, 116, 46, 112, 121] 486]), #[]⟩
noncomputable def q39 (P : Params) : Obj := ⟨.type "function", none, (.func ⟨(kT [73, 83, 84, 69, 82, 77, 73, 78, 65, 76]), (kT [73, 83, 84, 69, 82, 77, 73, 78, 65, 76]), fArgs 53, (.stmts (fBody 53)), fScope 53, 3, [], .none, .none, .none, kS [99, 112, 121, 51, 49, 51, 46, 116, 111, 107, 101, 110] 282, none, .ref 40, .none, 0⟩), #[]⟩
noncomputable def q40 (P : Params) : Obj := ⟨.type "tuple", none, (.seq #[kS [120] 491] 0), #[]⟩
noncomputable def q41 (P : Params) : Obj := ⟨.none, none, (.func ⟨(kT [73, 83, 78, 79, 78, 84, 69, 82, 77, 73, 78, 65, 76]), (kT [73, 83, 78, 79, 78, 84, 69, 82, 77, 73, 78, 65, 76]), fArgs 54, (.stmts (fBody 54)), fScope 54, 0, [], .none, .none, .none, .none, none, .none, .none, 0⟩), #[]⟩
noncomputable def q42 (P : Params) : Obj := ⟨.type "code", none, (.fields #[kS [73, 83, 78, 79, 78, 84, 69, 82, 77, 73, 78, 65, 76] 488, kS [73, 83, 78, 79, 78, 84, 69, 82, 77, 73, 78, 65, 76] 489, kS [47, 99, 108, 97, 105, 109, 47, 99, 117, 116, 46, 112, 121] 490, .int 56 0, .int 1 0, .int 0 0, .int 0 0, .int 3 0, .ref 42, .bool true, .int 276 0, .ref 43, .none, .ref 44, .ref 45, .ref 46, .int 492 0, .int 56 0, kS [47, 99, 108, 97, 105, 109, 47, 99, 117, 116, 46, 112, 121] 493]), #[]⟩
noncomputable def q43 (P : Params) : Obj := ⟨.type "function", none, (.func ⟨(kT [73, 83, 78, 79, 78, 84, 69, 82, 77, 73, 78, 65, 76]), (kT [73, 83, 78, 79, 78, 84, 69, 82, 77, 73, 78, 65, 76]), fArgs 54, (.stmts (fBody 54)), fScope 54, 3, [], .none, .none, .none, kS [99, 112, 121, 51, 49, 51, 46, 116, 111, 107, 101, 110] 282, none, .ref 47, .none, 0⟩), #[]⟩
noncomputable def q44 (P : Params) : Obj := ⟨.type "tuple", none, (.seq #[kS [120] 498] 0), #[]⟩
noncomputable def q45 (P : Params) : Obj := ⟨.none, none, (.func ⟨(kT [73, 83, 69, 79, 70]), (kT [73, 83, 69, 79, 70]), fArgs 55, (.stmts (fBody 55)), fScope 55, 0, [], .none, .none, .none, .none, none, .none, .none, 0⟩), #[]⟩
noncomputable def q46 (P : Params) : Obj := ⟨.type "code", none, (.fields #[kS [73, 83, 69, 79, 70] 495, kS [73, 83, 69, 79, 70] 496, kS [47, 99, 108, 97, 105, 109, 47, 99, 117, 116, 46, 112, 121] 497, .int 58 0, .int 1 0, .int 0 0, .int 0 0, .int 3 0, .ref 49, .bool true, .int 276 0, .ref 50, .none, .ref 51, .ref 52, .ref 53, .int 499 0, .int 58 0, kS [47, 99, 108, 97, 105, 109, 47, 99, 117, 116, 46, 112, 121] 500]), #[]⟩
noncomputable def q47 (P : Params) : Obj := ⟨.type "function", none, (.func ⟨(kT [73, 83, 69, 79, 70]), (kT [73, 83, 69, 79, 70]), fArgs 55, (.stmts (fBody 55)), fScope 55, 3, [], .none, .none, .none, kS [99, 112, 121, 51, 49, 51, 46, 116, 111, 107, 101, 110] 282, none, .ref 54, .none, 0⟩), #[]⟩
noncomputable def q48 (P : Params) : Obj := ⟨.type "tuple", none, (.seq #[kS [119, 97, 110, 116] 509, kS [103, 111, 116] 510, kS [119, 115] 511, kS [115, 116, 97, 114, 116, 112, 111, 115] 512, kS [101, 110, 100, 112, 111, 115] 513, kS [119] 514] 0), #[]⟩
noncomputable def q49 (P : Params) : Obj := ⟨.none, none, (.func ⟨(kT [95, 101, 108, 108, 105, 112, 115, 105, 115, 95, 109, 97, 116, 99, 104]), (kT [95, 101, 108, 108, 105, 112, 115, 105, 115, 95, 109, 97, 116, 99, 104]), fArgs 58, (.stmts (fBody 58)), fScope 58, 0, [], .none, .none, .none, .none, none, .none, .none, 0⟩), #[]⟩
noncomputable def q50 (P : Params) : Obj := ⟨.type "code", none, (.fields #[kS [95, 101, 108, 108, 105, 112, 115, 105, 115, 95, 109, 97, 116, 99, 104] 506, kS [95, 101, 108, 108, 105, 112, 115, 105, 115, 95, 109, 97, 116, 99, 104] 507, kS [47, 99, 108, 97, 105, 109, 47, 99, 117, 116, 46, 112, 121] 508, .int 62 0, .int 2 0, .int 0 0, .int 0 0, .int 3 0, .ref 56, .bool true, .int 276 0, .ref 57, .none, .ref 58, .ref 59, .ref 60, .int 515 0, .int 62 0, kS [47, 99, 108, 97, 105, 109, 47, 99, 117, 116, 46, 112, 121] 516]), #[]⟩
noncomputable def q51 (P : Params) : Obj := ⟨.type "function", none, (.func ⟨(kT [95, 101, 108, 108, 105, 112, 115, 105, 115, 95, 109, 97, 116, 99, 104]), (kT [95, 101, 108, 108, 105, 112, 115, 105, 115, 95, 109, 97, 116, 99, 104]), fArgs 58, (.stmts (fBody 58)), fScope 58, 3, [], .none, .none, .none, kS [99, 112, 121, 51, 49, 51, 46, 100, 111, 99, 116, 101, 115, 116] 502, none, .ref 61, .none, 0⟩), #[]⟩
noncomputable def q52 (P : Params) : Obj := ⟨.type "list", none, (.seq #[.int 14 523, .int 4 524, .int 0 525, .int 1 526, .int 1 527, .int 6 528, .int 1 529, .int 16 530, .int 46 531, .int 1 532] 0), #[]⟩
noncomputable def q53 (P : Params) : Obj := ⟨.type "tuple", none, (.seq #[.none] 0), #[]⟩
noncomputable def q54 (P : Params) : Obj := ⟨.type "tuple", none, (.seq #[.int 14 0, .int 4 0, .int 0 0, .int 1 0, .int 1 0, .int 6 0, .int 1 0, .int 16 0, .int 46 0, .int 1 0] 0), #[]⟩
noncomputable def q55 (P : Params) : Obj := ⟨.type "re.Pattern", none, (.fields #[kS [40, 63, 109, 41, 94, 92, 46] 521, .int 40 534, .int 0 0, .none, .none, .ref 66, .int 0 0]), #[]⟩
noncomputable def q56 (P : Params) : Obj := ⟨.type "list", none, (.seq #[.int 14 539, .int 9 540, .int 4 541, .int 1 542, .int 2 543, .int 16 544, .int 10 545, .int 16 546, .int 13 547, .int 0 548, .int 7 549, .int 7 550, .int 16 551, .int 13 552, .int 16 553, .int 10 554, .int 15 555, .int 18 556, .int 5 557, .int 16 558, .int 10 559, .int 15 560, .int 13 561, .int 11 562, .int 16 563, .int 13 564, .int 5 565, .int 5 566, .int 0 567, .int 16 568, .int 10 569, .int 1 570, .int 15 571, .int 2 572, .int 0 573, .int 1 574] 0), #[]⟩
noncomputable def q57 (P : Params) : Obj := ⟨.type "tuple", none, (.seq #[.int 14 0, .int 9 0, .int 4 0, .int 1 0, .int 2 0, .int 16 0, .int 10 0, .int 16 0, .int 13 0, .int 0 0, .int 7 0, .int 7 0, .int 16 0, .int 13 0, .int 16 0, .int 10 0, .int 15 0, .int 18 0, .int 5 0, .int 16 0, .int 10 0, .int 15 0, .int 13 0, .int 11 0, .int 16 0, .int 13 0, .int 5 0, .int 5 0, .int 0 0, .int 16 0, .int 10 0, .int 1 0, .int 15 0, .int 2 0, .int 0 0, .int 1 0] 0), #[]⟩
noncomputable def q58 (P : Params) : Obj := ⟨.type "re.Pattern", none, (.fields #[kS [40, 63, 58, 92, 114, 92, 110, 124, 92, 110, 124, 92, 114, 40, 63, 33, 92, 110, 41, 41] 537, .int 32 576, .int 0 0, .none, .none, .ref 71, .int 0 0]), #[]⟩
noncomputable def q59 (P : Params) : Obj := ⟨.type "tuple", none, (.seq #[kS [100, 97, 116, 97] 583] 0), #[]⟩
noncomputable def q60 (P : Params) : Obj := ⟨.none, none, (.func ⟨(kT [113, 117, 111, 116, 101, 100, 97, 116, 97]), (kT [113, 117, 111, 116, 101, 100, 97, 116, 97]), fArgs 63, (.stmts (fBody 63)), fScope 63, 0, [], .none, .none, .none, .none, none, .none, .none, 0⟩), #[]⟩
noncomputable def q61 (P : Params) : Obj := ⟨.type "code", none, (.fields #[kS [113, 117, 111, 116, 101, 100, 97, 116, 97] 580, kS [113, 117, 111, 116, 101, 100, 97, 116, 97] 581, kS [47, 99, 108, 97, 105, 109, 47, 99, 117, 116, 46, 112, 121] 582, .int 94 0, .int 1 0, .int 0 0, .int 0 0, .int 3 0, .ref 73, .bool true, .int 276 0, .ref 74, .none, .ref 75, .ref 76, .ref 77, .int 584 0, .int 94 0, kS [47, 99, 108, 97, 105, 109, 47, 99, 117, 116, 46, 112, 121] 585]), #[]⟩
noncomputable def q62 (P : Params) : Obj := ⟨.type "function", none, (.func ⟨(kT [113, 117, 111, 116, 101, 100, 97, 116, 97]), (kT [113, 117, 111, 116, 101, 100, 97, 116, 97]), fArgs 63, (.stmts (fBody 63)), fScope 63, 3, [], .none, .none, .none, kS [99, 112, 121, 51, 49, 51, 46, 115, 109, 116, 112, 108, 105, 98] 518, none, .ref 78, .none, 0⟩), #[]⟩
noncomputable def q63 (P : Params) : Obj := ⟨.none, none, (.func ⟨(kT [95, 108, 97, 119, 95, 110, 117, 109, 98, 101, 114, 115]), (kT [95, 108, 97, 119, 95, 110, 117, 109, 98, 101, 114, 115]), fArgs 65, (.stmts (fBody 65)), fScope 65, 0, [], .none, .none, .none, .none, none, .none, .none, 0⟩), #[]⟩
noncomputable def q64 (P : Params) : Obj := ⟨.type "code", none, (.fields #[kS [95, 108, 97, 119, 95, 110, 117, 109, 98, 101, 114, 115] 589, kS [95, 108, 97, 119, 95, 110, 117, 109, 98, 101, 114, 115] 590, kS [47, 99, 108, 97, 105, 109, 47, 99, 117, 116, 46, 112, 121] 591, .int 97 0, .int 2 0, .int 0 0, .int 0 0, .int 3 0, .ref 80, .bool true, .int 276 0, .ref 81, .none, .none, .none, .ref 82, .int 592 0, .int 97 0, kS [47, 99, 108, 97, 105, 109, 47, 99, 117, 116, 46, 112, 121] 593]), #[]⟩
noncomputable def q65 (P : Params) : Obj := ⟨.type "function", none, (.func ⟨(kT [95, 108, 97, 119, 95, 110, 117, 109, 98, 101, 114, 115]), (kT [95, 108, 97, 119, 95, 110, 117, 109, 98, 101, 114, 115]), fArgs 65, (.stmts (fBody 65)), fScope 65, 3, [], .none, .none, .none, kS [108, 97, 119, 95, 114, 119, 48, 48, 54, 50, 95, 48, 49] 587, none, .ref 83, .none, 0⟩), #[]⟩
noncomputable def q66 (P : Params) : Obj := ⟨.none, none, (.func ⟨(kT [95, 108, 97, 119, 95, 107, 105, 110, 100]), (kT [95, 108, 97, 119, 95, 107, 105, 110, 100]), fArgs 66, (.stmts (fBody 66)), fScope 66, 0, [], .none, .none, .none, .none, none, .none, .none, 0⟩), #[]⟩
noncomputable def q67 (P : Params) : Obj := ⟨.type "code", none, (.fields #[kS [95, 108, 97, 119, 95, 107, 105, 110, 100] 595, kS [95, 108, 97, 119, 95, 107, 105, 110, 100] 596, kS [47, 99, 108, 97, 105, 109, 47, 99, 117, 116, 46, 112, 121] 597, .int 99 0, .int 1 0, .int 0 0, .int 0 0, .int 3 0, .ref 85, .bool true, .int 276 0, .ref 86, .none, .none, .none, .ref 87, .int 598 0, .int 99 0, kS [47, 99, 108, 97, 105, 109, 47, 99, 117, 116, 46, 112, 121] 599]), #[]⟩
noncomputable def q68 (P : Params) : Obj := ⟨.type "function", none, (.func ⟨(kT [95, 108, 97, 119, 95, 107, 105, 110, 100]), (kT [95, 108, 97, 119, 95, 107, 105, 110, 100]), fArgs 66, (.stmts (fBody 66)), fScope 66, 3, [], .none, .none, .none, kS [108, 97, 119, 95, 114, 119, 48, 48, 54, 50, 95, 48, 49] 587, none, .ref 88, .none, 0⟩), #[]⟩
noncomputable def q69 (P : Params) : Obj := ⟨.type "tuple", none, (.seq #[kS [114, 111, 119] 604, kS [114, 111, 111, 109] 605, kS [107, 105, 110, 100, 115] 606, kS [115, 116, 97, 114, 116] 607, kS [115, 116, 111, 112] 608, kS [119, 111, 114, 100, 115] 609, kS [119, 97, 105, 116, 105, 110, 103] 610, kS [100, 111, 110, 101] 611, kS [114, 101, 115, 116] 612, kS [108, 101, 102, 116] 613, kS [107, 105, 110, 100] 614] 0), #[]⟩
noncomputable def q70 (P : Params) : Obj := ⟨.none, none, (.func ⟨(kT [95, 108, 97, 119, 95, 119, 111, 114, 100, 115]), (kT [95, 108, 97, 119, 95, 119, 111, 114, 100, 115]), fArgs 67, (.stmts (fBody 67)), fScope 67, 0, [], .none, .none, .none, .none, none, .none, .none, 0⟩), #[]⟩
noncomputable def q71 (P : Params) : Obj := ⟨.type "code", none, (.fields #[kS [95, 108, 97, 119, 95, 119, 111, 114, 100, 115] 601, kS [95, 108, 97, 119, 95, 119, 111, 114, 100, 115] 602, kS [47, 99, 108, 97, 105, 109, 47, 99, 117, 116, 46, 112, 121] 603, .int 105 0, .int 5 0, .int 0 0, .int 0 0, .int 3 0, .ref 90, .bool true, .int 276 0, .ref 91, .none, .ref 92, .ref 93, .ref 94, .int 615 0, .int 105 0, kS [47, 99, 108, 97, 105, 109, 47, 99, 117, 116, 46, 112, 121] 616]), #[]⟩
noncomputable def q72 (P : Params) : Obj := ⟨.type "function", none, (.func ⟨(kT [95, 108, 97, 119, 95, 119, 111, 114, 100, 115]), (kT [95, 108, 97, 119, 95, 119, 111, 114, 100, 115]), fArgs 67, (.stmts (fBody 67)), fScope 67, 3, [], .none, .none, .none, kS [108, 97, 119, 95, 114, 119, 48, 48, 54, 50, 95, 48, 49] 587, none, .ref 95, .none, 0⟩), #[]⟩
noncomputable def q73 (P : Params) : Obj := ⟨.none, none, (.func ⟨(kT [95, 108, 97, 119, 95, 114, 111, 119, 115]), (kT [95, 108, 97, 119, 95, 114, 111, 119, 115]), fArgs 68, (.stmts (fBody 68)), fScope 68, 0, [], .none, .none, .none, .none, none, .none, .none, 0⟩), #[]⟩
noncomputable def q74 (P : Params) : Obj := ⟨.type "code", none, (.fields #[kS [95, 108, 97, 119, 95, 114, 111, 119, 115] 618, kS [95, 108, 97, 119, 95, 114, 111, 119, 115] 619, kS [47, 99, 108, 97, 105, 109, 47, 99, 117, 116, 46, 112, 121] 620, .int 119 0, .int 4 0, .int 0 0, .int 0 0, .int 3 0, .ref 97, .bool true, .int 276 0, .ref 98, .none, .none, .none, .ref 99, .int 621 0, .int 119 0, kS [47, 99, 108, 97, 105, 109, 47, 99, 117, 116, 46, 112, 121] 622]), #[]⟩
noncomputable def q75 (P : Params) : Obj := ⟨.type "function", none, (.func ⟨(kT [95, 108, 97, 119, 95, 114, 111, 119, 115]), (kT [95, 108, 97, 119, 95, 114, 111, 119, 115]), fArgs 68, (.stmts (fBody 68)), fScope 68, 3, [], .none, .none, .none, kS [108, 97, 119, 95, 114, 119, 48, 48, 54, 50, 95, 48, 49] 587, none, .ref 100, .none, 0⟩), #[]⟩
noncomputable def q76 (P : Params) : Obj := ⟨.none, none, (.func ⟨(kT [108, 97, 119]), (kT [108, 97, 119]), fArgs 69, (.stmts (fBody 69)), fScope 69, 0, [], .none, .none, .none, .none, none, .none, .none, 0⟩), #[]⟩
noncomputable def q77 (P : Params) : Obj := ⟨.type "code", none, (.fields #[kS [108, 97, 119] 624, kS [108, 97, 119] 625, kS [47, 99, 108, 97, 105, 109, 47, 99, 117, 116, 46, 112, 121] 626, .int 121 0, .int 1 0, .int 0 0, .int 0 0, .int 3 0, .ref 102, .bool true, .int 276 0, .ref 103, .none, .none, .none, .ref 104, .int 627 0, .int 121 0, kS [47, 99, 108, 97, 105, 109, 47, 99, 117, 116, 46, 112, 121] 628]), #[]⟩
noncomputable def q78 (P : Params) : Obj := ⟨.type "function", none, (.func ⟨(kT [108, 97, 119]), (kT [108, 97, 119]), fArgs 69, (.stmts (fBody 69)), fScope 69, 3, [], .none, .none, .none, kS [108, 97, 119, 95, 114, 119, 48, 48, 54, 50, 95, 48, 49] 587, none, .ref 105, .none, 0⟩), #[]⟩
noncomputable def hp0 (P : Params) : Heap := ⟨⟨[q0 P, q1 P, q2 P, q3 P, q4 P, q5 P, q6 P, q7 P, q8 P, q9 P, q10 P, q11 P, q12 P, q13 P, q14 P, q7 P, q15 P, q16 P, q17 P, q18 P, q19 P, q20 P, q21 P, q22 P, q23 P, q24 P, q25 P, q26 P]⟩, {}⟩
noncomputable def hpA (P : Params) : Heap := ⟨⟨[q0 P, q1 P, q2 P, q3 P, q4 P, q5 P, q6 P, q7 P, q8 P, q9 P, q10 P, q11 P, q12 P, q13 P, q14 P, q7 P, q15 P, q16 P, q17 P, q18 P, q19 P, q20 P, q21 P, q22 P, q23 P, q24 P, q25 P, q26 P, q7 P, q8 P, q27 P, q28 P]⟩, {}⟩
noncomputable def hp1 (P : Params) : Heap := ⟨⟨[q0 P, q1 P, q2 P, q29 P, q4 P, q5 P, q6 P, q7 P, q8 P, q9 P, q10 P, q11 P, q12 P, q13 P, q14 P, q7 P, q15 P, q16 P, q17 P, q18 P, q19 P, q20 P, q21 P, q22 P, q23 P, q24 P, q25 P, q26 P, q7 P, q8 P, q27 P, q28 P]⟩, {}⟩
noncomputable def hp2 (P : Params) : Heap := ⟨⟨[q0 P, q1 P, q2 P, q30 P, q4 P, q5 P, q6 P, q7 P, q8 P, q9 P, q10 P, q11 P, q12 P, q13 P, q14 P, q7 P, q15 P, q16 P, q17 P, q18 P, q19 P, q20 P, q21 P, q22 P, q23 P, q24 P, q25 P, q26 P, q7 P, q8 P, q27 P, q28 P, q31 P, q32 P, q33 P]⟩, {}⟩
noncomputable def hp3 (P : Params) : Heap := ⟨⟨[q0 P, q1 P, q2 P, q34 P, q4 P, q5 P, q6 P, q7 P, q8 P, q9 P, q10 P, q11 P, q12 P, q13 P, q14 P, q7 P, q15 P, q16 P, q17 P, q18 P, q19 P, q20 P, q21 P, q22 P, q23 P, q24 P, q25 P, q26 P, q7 P, q35 P, q27 P, q28 P, q31 P, q32 P, q33 P, q7 P, q8 P, q36 P, q7 P, q37 P, q38 P, q39 P, q7 P, q8 P, q40 P, q7 P, q41 P, q42 P, q43 P, q7 P, q8 P, q44 P, q7 P, q45 P, q46 P, q47 P, q7 P, q8 P, q48 P, q7 P, q49 P, q50 P, q51 P, q52 P, q6 P, q53 P, q54 P, q55 P, q56 P, q6 P, q53 P, q57 P, q58 P, q7 P, q8 P, q59 P, q7 P, q60 P, q61 P, q62 P, q7 P, q8 P, q63 P, q64 P, q65 P, q7 P, q8 P, q66 P, q67 P, q68 P, q7 P, q8 P, q69 P, q7 P, q70 P, q71 P, q72 P, q7 P, q8 P, q73 P, q74 P, q75 P, q7 P, q8 P, q76 P, q77 P, q78 P]⟩, {}⟩
noncomputable def kTop (P : Params) : Frag := [(3, q34 P), (32, q31 P), (66, q54 P), (67, q55 P), (71, q57 P), (72, q58 P)]
noncomputable def Vb : List Stmt := PySem.Challenge.pw_rw0062_01.main.body
noncomputable def Vw : Program := { PySem.Challenge.pw_rw0062_01 with main := { PySem.Challenge.pw_rw0062_01.main with body := Vb.take 1 ++ ((Vb.drop 2).take 54 ++ ((Vb.drop 57).take 2 ++ ((Vb.drop 60).take 4 ++ Vb.drop 65))) } }
noncomputable def loose0 : List Str := [Str.ofString "EXACT_TOKEN_TYPES", Str.ofString "_twin_re_1", Str.ofString "_twin_re_2"]
noncomputable def kAt : List Addr := [3, 32, 66, 67, 71, 72]
noncomputable def bE : List Stmt := behindTheImports PySem.Challenge.pw_rw0062_01
noncomputable def envE : Env := { scope := PySem.Challenge.pw_rw0062_01.main.scope, locals := mainNs, globals := mainNs, cells := [], code := .ref 30, frame := some 31 }
noncomputable def cE : Code := .body bE envE
noncomputable def dE : Drawn := {}
noncomputable def p0 : Pos := ⟨0, 0, 0, 0⟩
noncomputable def SE0 (H : Params → Heap) (k : Nat) (w : World) (os : OsState) : Shared := ⟨H w.params, #[], dE, k, os⟩
theorem open0 (w : World) : (fencedOpening treeTable PySem.Challenge.pw_rw0062_01 w 3964).map (fun s => (s.heap, s.gens, s.drawn, s.toks)) = some (hp0 w.params, #[], dE, 276) := by
  unfold fencedOpening
  rw [PySem.W.Fast.te10274390034422433532, PySem.W.Fast.te1435165496053646825, PySem.W.Fast.te14289696077712309145, PySem.W.Fast.te14364793385576792824]
  kernel_rfl
theorem size0 (w : World) : ((hp0 w.params).isNs mainGlobals && (#[] : Array GenState).size == 0, (hp0 w.params).objs.size, (hp0 w.params).nsMap mainGlobals (Str.ofString "__annotations__")) = (true, 28, some (.ref 6)) := by kernel_rfl
theorem preA (w : World) (os : OsState) : topGo treeTable PySem.Challenge.pw_rw0062_01 w 28 (some (.ref 6)) 12 (SE0 hp0 276 w os) (topStub PySem.Challenge.pw_rw0062_01) = some (SE0 hpA 282 w os, ⟨denote treeTable cE, cE, p0, [topFrame p0]⟩) := by
  rw [PySem.W.Fast.te15667345088766844465, PySem.W.Fast.te11892475500146522536, PySem.W.Fast.te14364793385576792824]
  kernel_rfl
theorem blockA (w : World) (os : OsState) : segRun treeTable PySem.Challenge.pw_rw0062_01 w 28 (some (.ref 6)) 1 1 (SE0 hpA 282 w os) (blockOf bE envE cE p0 [topFrame p0]) = some (.next, SE0 hpA 282 w os, cE, p0) := by
  kernel_rfl
theorem piece1 (w : World) (os : OsState) : segRun treeTable PySem.Challenge.pw_rw0062_01 w 28 (some (.ref 6)) 1 460 (SE0 hpA 282 w os) (piecesOf (bE.take 51) envE cE p0 [topFrame p0]) = some (.next, SE0 hp1 384 w os, cE, ⟨52, 0, 52, 9⟩) := by
  rw [PySem.W.Fast.te14374325043358763698, PySem.W.Fast.te14364793385576792824]
  kernel_rfl
theorem piece2_false (w : World) (os : OsState) : segRun treeTable PySem.Challenge.pw_rw0062_01 (w.withFollow "special-get-raises" false) 28 (some (.ref 6)) 1 979 (SE0 hp1 384 (w.withFollow "special-get-raises" false) os) (piecesOf ((bE.drop 51).take 1) envE cE ⟨52, 0, 52, 9⟩ [topFrame p0]) = some (.next, SE0 hp2 481 (w.withFollow "special-get-raises" false) os, cE, ⟨53, 0, 53, 17⟩) := by
  rw [PySem.W.Fast.te14374325043358763698, PySem.W.Fast.te14364793385576792824]
  kernel_rfl
theorem piece2_true (w : World) (os : OsState) : segRun treeTable PySem.Challenge.pw_rw0062_01 (w.withFollow "special-get-raises" true) 28 (some (.ref 6)) 1 979 (SE0 hp1 384 (w.withFollow "special-get-raises" true) os) (piecesOf ((bE.drop 51).take 1) envE cE ⟨52, 0, 52, 9⟩ [topFrame p0]) = some (.next, SE0 hp2 481 (w.withFollow "special-get-raises" true) os, cE, ⟨53, 0, 53, 17⟩) := by
  rw [PySem.W.Fast.te14374325043358763698, PySem.W.Fast.te14364793385576792824]
  kernel_rfl
theorem piece3 (w : World) (os : OsState) : segRun treeTable PySem.Challenge.pw_rw0062_01 w 28 (some (.ref 6)) 1 483 (SE0 hp2 481 w os) (piecesOf (bE.drop 52) envE cE ⟨53, 0, 53, 17⟩ [topFrame p0]) = some (.next, SE0 hp3 630 w os, cE, ⟨121, 0, 158, 15⟩) := by
  rw [PySem.W.Fast.te14374325043358763698, PySem.W.Fast.te14364793385576792824]
  kernel_rfl
theorem finA (w : World) (os : OsState) : topRun treeTable PySem.Challenge.pw_rw0062_01 w 28 (some (.ref 6)) 2 (SE0 hp3 630 w os) ⟨doneF .next, cE, ⟨121, 0, 158, 15⟩, [topFrame p0]⟩ = some (SE0 hp3 630 w os) := by
  kernel_rfl
end Mine
-- G28
namespace Mine
open PySem.W.X PySem.W.ZRun
theorem piece2 (w : World) (os : OsState) : segRun treeTable PySem.Challenge.pw_rw0062_01 w 28 (some (.ref 6)) 1 979 (SE0 hp1 384 w os) (piecesOf ((bE.drop 51).take 1) envE cE ⟨52, 0, 52, 9⟩ [topFrame p0]) = some (.next, SE0 hp2 481 w os, cE, ⟨53, 0, 53, 17⟩) :=
  byRow2 "special-get-raises" (P := fun w => segRun treeTable PySem.Challenge.pw_rw0062_01 w 28 (some (.ref 6)) 1 979 (SE0 hp1 384 w os) (piecesOf ((bE.drop 51).take 1) envE cE ⟨52, 0, 52, 9⟩ [topFrame p0]) = some (.next, SE0 hp2 481 w os, cE, ⟨53, 0, 53, 17⟩)) (fun w => piece2_false w os) (fun w => piece2_true w os) w
theorem body_cut : bE = bE.take 51 ++ ((bE.drop 51).take 1 ++ (bE.drop 52 ++ [])) := by kernel_rfl
theorem run0 (w : World) (os : OsState) : topRun treeTable PySem.Challenge.pw_rw0062_01 w 28 (some (.ref 6)) (12 + (1 + (460 + (979 + (483 + 2))))) (SE0 hp0 276 w os) (topStub PySem.Challenge.pw_rw0062_01) = some (SE0 hp3 630 w os) := by
  refine go_top (n := 12) (N := 1 + (460 + (979 + (483 + 2)))) (s' := SE0 hpA 282 w os) (t' := ⟨denote treeTable cE, cE, p0, [topFrame p0]⟩) (preA w os) ?_
  refine piece_block (n := 1) (N := 460 + (979 + (483 + 2))) (s' := SE0 hpA 282 w os) (b := bE) (env := envE) (c := cE) (pos := p0) (p' := p0) (q := p0) (blockA w os) ?_
  rw [body_cut]
  refine piece_app (n := 460) (N := 979 + (483 + 2)) (s' := SE0 hp1 384 w os) (l := bE.take 51) (env := envE) (c := cE) (q := p0) (piece1 w os) ?_
  refine piece_app (n := 979) (N := 483 + 2) (s' := SE0 hp2 481 w os) (l := (bE.drop 51).take 1) (env := envE) (c := cE) (q := p0) (piece2 w os) ?_
  refine piece_app (n := 483) (N := 2) (s' := SE0 hp3 630 w os) (l := bE.drop 52) (rest := []) (env := envE) (c := cE) (q := p0) (piece3 w os) ?_
  exact piece_nil (finA w os)
noncomputable def lookX (s : Shared) := openSeen Vw loose0 (importedModules PySem.Challenge.pw_rw0062_01.main.body) (fun s => xlAt Vw [] s && recOk [] s) true s
/-- all looks but the checks -/
theorem look1 (w : World) (os : OsState) : (lookX (SE0 hp3 630 w os)).1 = expectedOf Vw := by
  unfold lookX
  rw [PySem.W.Fast.te4187177175401517315, PySem.W.Fast.te5923862056798008813]
  kernel_rfl
theorem look2 (w : World) (os : OsState) : (lookX (SE0 hp3 630 w os)).2.1 = bltViewBooted := by
  unfold lookX
  rw [PySem.W.Fast.te4187177175401517315, PySem.W.Fast.te5923862056798008813]
  kernel_rfl
theorem look3 (w : World) (os : OsState) : (lookX (SE0 hp3 630 w os)).2.2.1 = true := by
  unfold lookX
  rw [PySem.W.Fast.te4187177175401517315, PySem.W.Fast.te5923862056798008813]
  kernel_rfl
theorem look4 (w : World) (os : OsState) : (lookX (SE0 hp3 630 w os)).2.2.2 = (true, pinGoodD (drecsOf Vw), plainGoodE Vw (looseW Vw loose0), plainGoodD Vw loose0, wideGood Vw, clsGoodW Vw loose0) := by
  unfold lookX
  rw [PySem.W.Fast.te4187177175401517315, PySem.W.Fast.te5923862056798008813]
  kernel_rfl
theorem looks (w : World) (os : OsState) : lookX (SE0 hp3 630 w os) = openGood Vw loose0 := Prod.ext (look1 w os) (Prod.ext (look2 w os) (Prod.ext (look3 w os) (look4 w os)))
theorem look5 (w : World) (os : OsState) : (staticsOk (importedModules PySem.Challenge.pw_rw0062_01.main.body) (hp0 w.params) (hp3 w.params) && namesBound PySem.Challenge.pw_rw0062_01 (hp3 w.params) && gensDone (SE0 hp3 630 w os) && laidKept (hp0 w.params) (hp3 w.params)) = true := by kernel_rfl
theorem look6 (w : World) (os : OsState) : obsZ kAt (SE0 hp3 630 w os) = valZ kTop 107 630 w := by kernel_rfl
theorem left_top : LeftO PySem.Challenge.pw_rw0062_01 Vw loose0 (fun s => xlAt Vw [] s && recOk [] s) (obsZ kAt) (valZ kTop 107 630) 3964 :=
  LeftO.of_pieces (H₀ := hp0) (H₁ := hp3) (gs₀ := #[]) (gs₁ := #[]) (d₀ := dE) (d₁ := dE) (k₀ := 276) (k₁ := 630) (m₀ := 28) (ann := some (.ref 6)) (M := 12 + (1 + (460 + (979 + (483 + 2))))) open0 size0 run0 rfl
    fun w => funext fun os => Prod.ext (look5 w os) (Prod.ext (looks w os) (look6 w os))
end Mine
open PySem.W.X PySem.W.ZRun
set_option maxHeartbeats 0 in
theorem PySem.Challenge.cw_rw0062_01_holds : PySem.Challenge.rw_rw0062_01.Holds := by
  w_on; o_law
  refine holds_openX (q := Mine.Vw) (loose := Mine.loose0) (Xt := fun s => xlAt Mine.Vw [] s && recOk (RowW.records PySem.Challenge.rw_rw0062_01.row.toRowW) s) (XP := XL Mine.Vw []) (Yf := obsZ Mine.kAt) (Ya := valZ Mine.kTop 107 630) (N := 3964) ?hl (fun s e => xl_of s (Bool.and_eq_true_iff.mp e).1) XL.keeps (by rfl) (by rfl) (by rfl) (fun s e => recFacts_of (Bool.and_eq_true_iff.mp e).2) (by rfl) (by first | assumption | decide +kernel) (by decide +kernel) ⟨rfl, rfl, rfl, rfl, rfl, by decide +kernel⟩ ?hw ?hc
  case hl => exact Mine.left_top
  case hw => w_witness2
  k_fill
  intro w s₀ s₁ mg mb G y fa o pm cd doc dV kV ho hd hcd hD hmg hg args vals as L hpre hlay hrd hwl hlo
  obtain ⟨ZI, KX, ZN, ZT⟩ := z_facts (K := Mine.kTop) (fun P => rfl) y
  have KX : (Mine.kTop w.params).In s₁.heap := InK.keeps w _ _ KX (Laid.keeps L)
  refine Ground.open G ?_
  intro T B D TE TW
  wrow_args hpre hlay hrd hwl hlo
  obtain ⟨hat, hsz⟩ := script_at L
  have htk := script_toks L ZT
  rw [ZN] at hat hsz
  subst hat
  x_fa T KX hmg
  clear hd hcd hD hmg
  refine Mine.law_call KX T (by constructor <;> kernel_rfl) hsz htk (by assumption) (by assumption) (by omega) fun s' k => ?_
  obtain ⟨h', tk, rfl, u⟩ := k
  refine ⟨.inl ⟨.bool true, .bool true, [], rfl, fun _ => rfl, .bool true, by kernel_rfl, fun _ => ⟨List.nodup_nil, by simp⟩⟩, .of_keep u, rfl, .of_eq hg⟩
