import PyProof.Rows.All
import Wide.All
import OpenK.AllK
import Wide.FinOn
import Lean
import PySem.Challenge.RW_zd0010_01
set_option maxRecDepth 100000
set_option linter.unusedVariables false
set_option Elab.async false


namespace Mine
open PySem PySem.Calls PyProof.Rows

theorem lenA1 {α : Type} {vs : List α} (h : vs.length = 1) : ∃ a, vs = [a] := by
  cases vs with
  | nil => cases h
  | cons a r => cases r with
    | nil => exact ⟨a, rfl⟩
    | cons b r => exact absurd (Nat.succ.inj h) (Nat.succ_ne_zero _)
theorem lenA2 {α : Type} {vs : List α} (h : vs.length = 2) : ∃ a b, vs = [a, b] := by
  cases vs with
  | nil => cases h
  | cons a r =>
    obtain ⟨b, rfl⟩ := lenA1 (Nat.succ.inj h)
    exact ⟨a, b, rfl⟩
theorem lenA3 {α : Type} {vs : List α} (h : vs.length = 3) : ∃ a b c, vs = [a, b, c] := by
  cases vs with
  | nil => cases h
  | cons a r =>
    obtain ⟨b, c, rfl⟩ := lenA2 (Nat.succ.inj h)
    exact ⟨a, b, c, rfl⟩
abbrev ASet := Addr → Prop

/-- the state goes on: all objects outside S stay as they are -/
structure Go (S : ASet) (s s' : Shared) : Prop where
  kp : ∀ b o, ¬ S b → s.heap.get? b = some o → s'.heap.get? b = some o
  ex : ∀ b o, s.heap.get? b = some o → ∃ o', s'.heap.get? b = some o'
  gens : ∀ (i : Nat) (x : GenState), s.gens[i]? = some x → s'.gens[i]? = some x
  bare : AllBare s.gens → AllBare s'.gens
  drawn : s'.drawn = s.drawn
  os : s'.os = s.os

noncomputable def ASet.none : ASet := fun _ => False

theorem Go.refl {S : ASet} {s : Shared} : Go S s s := ⟨fun _ _ _ e => e, fun _ o e => ⟨o, e⟩, fun _ _ e => e, id, rfl, rfl⟩
theorem Go.trans {S T : ASet} {s s' s'' : Shared} (x : Go S s s') (y : Go T s' s'') (h : ∀ b, T b → S b) : Go S s s'' :=
  ⟨fun b o hb e => y.kp b o (fun q => hb (h b q)) (x.kp b o hb e), fun b o e => let ⟨o', e'⟩ := x.ex b o e; y.ex b o' e', fun i g e => y.gens i g (x.gens i g e), fun q => y.bare (x.bare q), y.drawn.trans x.drawn, y.os.trans x.os⟩
theorem Go.tr {S : ASet} {s s' s'' : Shared} (x : Go S s s') (y : Go S s' s'') : Go S s s'' := x.trans y fun _ q => q
theorem Go.mono {S T : ASet} {s s' : Shared} (x : Go S s s') (h : ∀ b, S b → T b) : Go T s s' := ⟨fun b o hb e => x.kp b o (fun q => hb (h b q)) e, x.ex, x.gens, x.bare, x.drawn, x.os⟩
abbrev Go0 := Go ASet.none
theorem Go.k0 {s s' : Shared} (x : Go0 s s') : ∀ b o, s.heap.get? b = some o → s'.heap.get? b = some o := fun b o e => x.kp b o (fun q => q) e
theorem Go.heap0 {s : Shared} {h' : Heap} {tk : Nat} (k : ∀ b o, s.heap.get? b = some o → h'.get? b = some o) : Go0 s { s with heap := h', toks := tk } :=
  ⟨fun b o _ e => k b o e, fun b o e => ⟨o, k b o e⟩, fun _ _ e => e, id, rfl, rfl⟩
theorem Go.heapS {S : ASet} {s : Shared} {h' : Heap} {tk : Nat} (k : ∀ b o, ¬ S b → s.heap.get? b = some o → h'.get? b = some o) (ex : ∀ b o, s.heap.get? b = some o → ∃ o', h'.get? b = some o') : Go S s { s with heap := h', toks := tk } :=
  ⟨k, ex, fun _ _ e => e, id, rfl, rfl⟩
theorem Go.tok {s : Shared} {tk : Nat} : Go0 s { s with toks := tk } := Go.heap0 (h' := s.heap) fun _ _ e => e
theorem Go.push {s : Shared} {o : Obj} : Go0 s { s with heap := s.heap.push o } := Go.heap0 (tk := s.toks) fun _ _ e => Heap.get?_push_of_some _ e
theorem Go.same {S : ASet} {s : Shared} {a : Addr} {h' : Heap} {tk : Nat} {oa : Obj} (ha : S a) (hs : Heap.SameBut a s.heap h') (e' : h'.get? a = some oa) : Go S s { s with heap := h', toks := tk } :=
  Go.heapS (fun b o hb e => (hs.2 b (fun q => hb (q ▸ ha))).trans e) fun b o e => by
    by_cases q : b = a
    · exact ⟨oa, q ▸ e'⟩
    · exact ⟨o, (hs.2 b q).trans e⟩
theorem Go.upd {S : ASet} {s : Shared} {a : Addr} {f : Obj → Obj} {o : Obj} {tk : Nat} (ha : S a) (e : s.heap.get? a = some o) (hf : (f o).isFreed = false) : Go S s { s with heap := s.heap.update a f, toks := tk } :=
  Go.same ha (Heap.SameBut.update ..) (Heap.get?_update_self _ e hf)
theorem fresh_size (h : Heap) : h.get? h.objs.size = none := by
  cases e : h.get? h.objs.size with
  | none => rfl
  | some o => exact absurd (Heap.lt_size e) (Nat.lt_irrefl _)

/-- v stands for the data d in h, by objects outside S -/
inductive Rep (S : ASet) (h : Heap) : Value → PyData → Prop
  | none : Rep S h .none .none
  | bool (b : Bool) : Rep S h (.bool b) (.bool b)
  | int (i : Int) (t : Tok) : Rep S h (.int i t) (.int i)
  | str (x : Str) (t : Tok) : Rep S h (.str x t) (.str x)
  | list {a : Addr} {vs : List Value} {n : Nat} {xs : List PyData} : ¬ S a → h.get? a = some { cls := .type "list", data := .seq vs.toArray n } → vs.length = xs.length → (∀ (i : Nat) v d, vs[i]? = some v → xs[i]? = some d → Rep S h v d) → Rep S h (.ref a) (.list xs)
  | tuple {a : Addr} {vs : List Value} {n : Nat} {xs : List PyData} : ¬ S a → h.get? a = some { cls := .type "tuple", data := .seq vs.toArray n } → vs.length = xs.length → (∀ (i : Nat) v d, vs[i]? = some v → xs[i]? = some d → Rep S h v d) → Rep S h (.ref a) (.tuple xs)
  | dict {a : Addr} {es : List DictEntry} {n : Nat} {kvs : List (PyData × PyData)} {ks : List Int} : ¬ S a → (a == sysModules) = false → h.get? a = some { cls := .type "dict", data := .dict es.toArray n } → es.length = kvs.length → kvs.map (·.1) = ks.map .int → ks.Nodup →
      (∀ (i : Nat) e k, es[i]? = some e → ks[i]? = some k → e.hash = hashInt k ∧ ∃ t, e.key = .int k t) →
      (∀ (i : Nat) e kv, es[i]? = some e → kvs[i]? = some kv → Rep S h e.val kv.2) → Rep S h (.ref a) (.dict kvs)

theorem Rep.mono {S T : ASet} {h h' : Heap} (k : ∀ b o, ¬ S b → h.get? b = some o → h'.get? b = some o) (st : ∀ b o, h.get? b = some o → T b → S b) {v : Value} {d : PyData} (x : Rep S h v d) : Rep T h' v d := by
  induction x with
  | none => exact .none
  | bool b => exact .bool b
  | int i t => exact .int i t
  | str x t => exact .str x t
  | list ha hg hl _ ih => exact .list (fun q => ha (st _ _ hg q)) (k _ _ ha hg) hl ih
  | tuple ha hg hl _ ih => exact .tuple (fun q => ha (st _ _ hg q)) (k _ _ ha hg) hl ih
  | dict ha hs hg hl hm hn hk _ ih => exact .dict (fun q => ha (st _ _ hg q)) hs (k _ _ ha hg) hl hm hn hk ih

theorem Rep.go {S : ASet} {s s' : Shared} {v : Value} {d : PyData} (x : Rep S s.heap v d) (g : Go S s s') : Rep S s'.heap v d := x.mono g.kp fun _ _ _ q => q
theorem Rep.go0 {S : ASet} {s s' : Shared} {v : Value} {d : PyData} (x : Rep S s.heap v d) (g : Go0 s s') : Rep S s'.heap v d := x.mono (fun b o _ e => g.k0 b o e) fun _ _ _ q => q
theorem Rep.weak {S T : ASet} {h : Heap} {v : Value} {d : PyData} (x : Rep S h v d) (st : ∀ b, T b → S b) : Rep T h v d := x.mono (fun _ _ _ e => e) fun b _ _ q => st b q
/-- more is shut out: fresh addresses -/
theorem Rep.shut {S T : ASet} {s s' : Shared} {v : Value} {d : PyData} (x : Rep S s.heap v d) (g : Go S s s') (st : ∀ b, T b → S b ∨ s.heap.get? b = Option.none) : Rep T s'.heap v d :=
  x.mono g.kp fun b o e q => (st b q).resolve_right (by rw [e]; exact fun z => nomatch z)

/-- pointwise -/
noncomputable def Reps (S : ASet) (h : Heap) (vs : List Value) (ds : List PyData) : Prop := vs.length = ds.length ∧ ∀ (i : Nat) v d, vs[i]? = some v → ds[i]? = some d → Rep S h v d
theorem Reps.nil {S : ASet} {h : Heap} : Reps S h [] [] := ⟨rfl, fun i v d e => by simp at e⟩
theorem Reps.cons {S : ASet} {h : Heap} {v : Value} {d : PyData} {vs : List Value} {ds : List PyData} (x : Rep S h v d) (y : Reps S h vs ds) : Reps S h (v :: vs) (d :: ds) :=
  ⟨by simp [y.1], fun i u e hu he => by
    cases i with
    | zero => simp at hu he; subst hu; subst he; exact x
    | succ i => simp at hu he; exact y.2 i u e hu he⟩
theorem Reps.head {S : ASet} {h : Heap} {v : Value} {d : PyData} {vs : List Value} {ds : List PyData} (y : Reps S h (v :: vs) (d :: ds)) : Rep S h v d := y.2 0 v d rfl rfl
theorem Reps.tail {S : ASet} {h : Heap} {v : Value} {d : PyData} {vs : List Value} {ds : List PyData} (y : Reps S h (v :: vs) (d :: ds)) : Reps S h vs ds :=
  ⟨by simpa using y.1, fun i u e hu he => y.2 (i + 1) u e (by simpa using hu) (by simpa using he)⟩
theorem Reps.go0 {S : ASet} {s s' : Shared} {vs : List Value} {ds : List PyData} (x : Reps S s.heap vs ds) (g : Go0 s s') : Reps S s'.heap vs ds := ⟨x.1, fun i v d a b => (x.2 i v d a b).go0 g⟩
theorem Reps.go {S : ASet} {s s' : Shared} {vs : List Value} {ds : List PyData} (x : Reps S s.heap vs ds) (g : Go S s s') : Reps S s'.heap vs ds := ⟨x.1, fun i v d a b => (x.2 i v d a b).go g⟩
theorem Reps.shut {S T : ASet} {s s' : Shared} {vs : List Value} {ds : List PyData} (x : Reps S s.heap vs ds) (g : Go S s s') (st : ∀ b, T b → S b ∨ s.heap.get? b = Option.none) : Reps T s'.heap vs ds := ⟨x.1, fun i v d a b => (x.2 i v d a b).shut g st⟩
theorem Reps.weak {S T : ASet} {h : Heap} {vs : List Value} {ds : List PyData} (x : Reps S h vs ds) (st : ∀ b, T b → S b) : Reps T h vs ds := ⟨x.1, fun i v d a b => (x.2 i v d a b).weak st⟩
theorem Reps.snoc {S : ASet} {h : Heap} {v : Value} {d : PyData} {vs : List Value} {ds : List PyData} (y : Reps S h vs ds) (x : Rep S h v d) : Reps S h (vs ++ [v]) (ds ++ [d]) :=
  ⟨by simp [y.1], fun i u e hu he => by
    by_cases hi : i < vs.length
    · rw [List.getElem?_append_left hi] at hu
      rw [List.getElem?_append_left (y.1 ▸ hi)] at he
      exact y.2 i u e hu he
    · have hi' : vs.length ≤ i := Nat.le_of_not_lt hi
      rw [List.getElem?_append_right hi'] at hu
      rw [List.getElem?_append_right (y.1 ▸ hi'), ← y.1] at he
      by_cases hz : i - vs.length = 0
      · rw [hz] at hu he; simp at hu he; subst hu; subst he; exact x
      · rw [List.getElem?_eq_none (by simp; omega)] at hu; cases hu⟩
theorem Reps.append {S : ASet} {h : Heap} {vs us : List Value} {ds es : List PyData} (x : Reps S h vs ds) (y : Reps S h us es) : Reps S h (vs ++ us) (ds ++ es) := by
  refine ⟨by simp [x.1, y.1], fun i u e hu he => ?_⟩
  by_cases hi : i < vs.length
  · rw [List.getElem?_append_left hi] at hu
    rw [List.getElem?_append_left (x.1 ▸ hi)] at he
    exact x.2 i u e hu he
  · have hi' : vs.length ≤ i := Nat.le_of_not_lt hi
    rw [List.getElem?_append_right hi'] at hu
    rw [List.getElem?_append_right (x.1 ▸ hi'), ← x.1] at he
    exact y.2 _ u e hu he

theorem Rep.listIs {S : ASet} {h : Heap} {a : Addr} {vs : List Value} {n : Nat} {xs : List PyData} (ha : ¬ S a) (hg : h.get? a = some { cls := .type "list", data := .seq vs.toArray n }) (r : Reps S h vs xs) : Rep S h (.ref a) (.list xs) := .list ha hg r.1 r.2
theorem Rep.tupleIs {S : ASet} {h : Heap} {a : Addr} {vs : List Value} {n : Nat} {xs : List PyData} (ha : ¬ S a) (hg : h.get? a = some { cls := .type "tuple", data := .seq vs.toArray n }) (r : Reps S h vs xs) : Rep S h (.ref a) (.tuple xs) := .tuple ha hg r.1 r.2
theorem Rep.listOf {S : ASet} {h : Heap} {v : Value} {xs : List PyData} (x : Rep S h v (.list xs)) : ∃ a vs n, v = .ref a ∧ ¬ S a ∧ h.get? a = some { cls := .type "list", data := .seq vs.toArray n } ∧ Reps S h vs xs := by
  cases x with
  | list ha hg hl hr => exact ⟨_, _, _, rfl, ha, hg, hl, hr⟩
theorem Rep.tupleOf {S : ASet} {h : Heap} {v : Value} {xs : List PyData} (x : Rep S h v (.tuple xs)) : ∃ a vs n, v = .ref a ∧ ¬ S a ∧ h.get? a = some { cls := .type "tuple", data := .seq vs.toArray n } ∧ Reps S h vs xs := by
  cases x with
  | tuple ha hg hl hr => exact ⟨_, _, _, rfl, ha, hg, hl, hr⟩
theorem Rep.intOf {S : ASet} {h : Heap} {v : Value} {i : Int} (x : Rep S h v (.int i)) : ∃ t, v = .int i t := by cases x; exact ⟨_, rfl⟩
theorem Rep.boolOf {S : ASet} {h : Heap} {v : Value} {b : Bool} (x : Rep S h v (.bool b)) : v = .bool b := by cases x; rfl
theorem Rep.strOf {S : ASet} {h : Heap} {v : Value} {y : Str} (x : Rep S h v (.str y)) : ∃ t, v = .str y t := by cases x; exact ⟨_, rfl⟩
theorem Rep.noneOf {S : ASet} {h : Heap} {v : Value} (x : Rep S h v .none) : v = .none := by cases x; rfl

/-- dictionary rows -/
noncomputable def DRow (S : ASet) (h : Heap) (es : List DictEntry) (kvs : List (Int × PyData)) : Prop :=
  es.length = kvs.length ∧ (kvs.map (·.1)).Nodup ∧ ∀ (i : Nat) e kv, es[i]? = some e → kvs[i]? = some kv → e.hash = hashInt kv.1 ∧ (∃ t, e.key = .int kv.1 t) ∧ Rep S h e.val kv.2
noncomputable def dictD (kvs : List (Int × PyData)) : PyData := .dict (kvs.map fun p => (.int p.1, p.2))
theorem ints_inj : ∀ {a b : List Int}, a.map PyData.int = b.map PyData.int → a = b
  | [], [], _ => rfl
  | [], _ :: _, h => by simp at h
  | _ :: _, [], h => by simp at h
  | x :: a, y :: b, h => by
    simp only [List.map_cons, List.cons.injEq, PyData.int.injEq] at h
    rw [h.1, ints_inj h.2]
theorem Rep.dictIs {S : ASet} {h : Heap} {a : Addr} {es : List DictEntry} {n : Nat} {kvs : List (Int × PyData)} (ha : ¬ S a) (hs : (a == sysModules) = false) (hg : h.get? a = some { cls := .type "dict", data := .dict es.toArray n }) (r : DRow S h es kvs) : Rep S h (.ref a) (dictD kvs) := by
  refine .dict (ks := kvs.map (·.1)) ha hs hg (by simp [r.1]) (by simp) r.2.1 (fun i e k he hk => ?_) fun i e kv he hk => ?_
  · rw [List.getElem?_map] at hk
    cases hq : kvs[i]? with
    | none => rw [hq] at hk; cases hk
    | some p => rw [hq] at hk; cases hk; obtain ⟨h1, ⟨t, h2⟩, _⟩ := r.2.2 i e p he hq; exact ⟨h1, t, h2⟩
  · rw [List.getElem?_map] at hk
    cases hq : kvs[i]? with
    | none => rw [hq] at hk; cases hk
    | some p => rw [hq] at hk; cases hk; exact (r.2.2 i e p he hq).2.2
theorem Rep.dictOf {S : ASet} {h : Heap} {v : Value} {kvs : List (Int × PyData)} (x : Rep S h v (dictD kvs)) : ∃ a es n, v = .ref a ∧ ¬ S a ∧ (a == sysModules) = false ∧ h.get? a = some { cls := .type "dict", data := .dict es.toArray n } ∧ DRow S h es kvs := by
  unfold dictD at x
  cases x with
  | @dict a es n _ ks ha hs hg hl hm hn hk hv =>
    have hks : ks = kvs.map (·.1) := ints_inj (by rw [← hm]; simp)
    subst hks
    refine ⟨_, _, _, rfl, ha, hs, hg, by simpa using hl, hn, fun i e kv he hq => ?_⟩
    obtain ⟨h1, t, h2⟩ := hk i e kv.1 he (by rw [List.getElem?_map, hq]; rfl)
    exact ⟨h1, ⟨t, h2⟩, hv i e _ he (by rw [List.getElem?_map, hq]; rfl)⟩

end Mine

namespace Mine
open PySem PySem.Calls PyProof.Rows

noncomputable def unstarred : Expr → Bool
  | .Starred .. => false
  | _ => true
theorem star_cons {e : Expr} {es : List Expr} {env : Env} (h : unstarred e = true) : starEach (e :: es) env = (false, eval e env) :: starEach es env := by
  cases e <;> first | rfl | exact nomatch h
theorem any_star {pos : Pos} {env : Env} : ∀ {es : List Expr}, es.all unstarred = true → (backTo pos (starEach es env)).any (·.1) = false
  | [], _ => rfl
  | e :: es, h => by
    rw [List.all_cons, Bool.and_eq_true] at h
    rw [star_cons h.1]
    show (false || (backTo pos (starEach es env)).any (·.1)) = false
    rw [any_star h.2]; rfl
theorem all_star {pos : Pos} {env : Env} : ∀ {es : List Expr}, es.all unstarred = true → (backTo pos (starEach es env)).all (fun x => !x.1) = true
  | [], _ => rfl
  | e :: es, h => by
    rw [List.all_cons, Bool.and_eq_true] at h
    rw [star_cons h.1]
    show (true && (backTo pos (starEach es env)).all (fun x => !x.1)) = true
    rw [all_star h.2]; rfl
theorem few_star {pos : Pos} {env : Env} {es : List Expr} (h : es.all unstarred = true) (hl : decide (es.length + ([] : List Keyword).length + (if ([] : List Keyword).isEmpty then 0 else 1) < 30) = true) :
    ((backTo pos (starEach es env)).all (fun x => !x.1) && (backToKw pos (keywordEach [] env)).all (fun x => x.1.isSome) && decide (es.length + ([] : List Keyword).length + (if ([] : List Keyword).isEmpty then 0 else 1) < 30)) = true := by
  rw [all_star h, hl]; rfl
noncomputable def uncalled : Expr → Bool
  | .Call .. => false
  | _ => true
theorem base_plain {o : Expr} {name : Str} {env : Env} {w : Sem Value} (h : uncalled o = true) : attributeBase o name env w = w := by
  cases o <;> first | rfl | exact nomatch h

structure Room (n : Nat) (A : Around) : Prop where
  handled : A.handled = none
  depth : A.depth + n + 2 < recursionLimit
  units : A.units + 8 * n + 200 < cLine
theorem Room.deeper {n : Nat} {A : Around} {env : Env} (r : Room (n + 1) A) : Room n (A.deeper env) :=
  ⟨r.handled, by have := r.depth; show A.depth + 1 + n + 2 < _; omega, by have := r.units; show A.units + 3 + 8 * n + 200 < _; omega⟩
theorem Room.le {n m : Nat} {A : Around} (r : Room n A) (h : m ≤ n) : Room m A := ⟨r.handled, by have := r.depth; omega, by have := r.units; omega⟩
theorem Room.u {n : Nat} {A : Around} (r : Room n A) : A.units < cLine := by have := r.units; omega
theorem Room.u64 {n : Nat} {A : Around} (r : Room n A) : A.units + 64 < cLine := by have := r.units; omega
theorem Room.d {n : Nat} {A : Around} (r : Room n A) : A.depth < recursionLimit := by have := r.depth; omega

/-- a name stands for a value -/
noncomputable def At (env : Env) (h : Heap) (x : Str) (v : Value) : Prop :=
  (env.kindOf x = some .local ∧ ∃ m, h.Ns env.locals m ∧ m x = some v) ∨
  ((env.kindOf x = some .cell ∨ env.kindOf x = some .free) ∧ ∃ c, env.cells.lookup x = some c ∧ h.IsCell c (some v))

theorem At.kp {env : Env} {h h' : Heap} {x : Str} {v : Value} (a : At env h x v) (k : ∀ b o, h.get? b = some o → h'.get? b = some o) : At env h' x v := by
  rcases a with ⟨hk, m, hn, hm⟩ | ⟨hk, c, hc, hv⟩
  · exact .inl ⟨hk, m, hn.keeps k, hm⟩
  · exact .inr ⟨hk, c, hc, hv.keeps k⟩

/-- the root is exempt, the parts are not -/
noncomputable def RepC (S : ASet) (h : Heap) (a : Addr) (d : PyData) : Prop :=
  (∃ vs n xs, d = .list xs ∧ h.get? a = some { cls := .type "list", data := .seq (List.toArray vs) n } ∧ Reps S h vs xs) ∨
  (∃ es n kvs, d = dictD kvs ∧ (a == sysModules) = false ∧ h.get? a = some { cls := .type "dict", data := .dict (List.toArray es) n } ∧ DRow S h es kvs)
theorem DRow.shut {S T : ASet} {s s' : Shared} {es : List DictEntry} {kvs : List (Int × PyData)} (x : DRow S s.heap es kvs) (g : Go S s s') (st : ∀ b, T b → S b ∨ s.heap.get? b = none) : DRow T s'.heap es kvs :=
  ⟨x.1, x.2.1, fun i e kv a b => let ⟨p, q, r⟩ := x.2.2 i e kv a b; ⟨p, q, r.shut g st⟩⟩
theorem DRow.go {S : ASet} {s s' : Shared} {es : List DictEntry} {kvs : List (Int × PyData)} (x : DRow S s.heap es kvs) (g : Go S s s') : DRow S s'.heap es kvs := x.shut g fun _ q => .inl q
theorem DRow.weak {S T : ASet} {h : Heap} {es : List DictEntry} {kvs : List (Int × PyData)} (x : DRow S h es kvs) (st : ∀ b, T b → S b) : DRow T h es kvs :=
  ⟨x.1, x.2.1, fun i e kv a b => let ⟨p, q, r⟩ := x.2.2 i e kv a b; ⟨p, q, r.weak st⟩⟩
theorem RepC.shut {S T : ASet} {s s' : Shared} {a : Addr} {d : PyData} (x : RepC S s.heap a d) (g : Go S s s') (ga : ∀ o, s.heap.get? a = some o → s'.heap.get? a = some o) (st : ∀ b, T b → S b ∨ s.heap.get? b = none) : RepC T s'.heap a d := by
  rcases x with ⟨vs, n, xs, hd, hg, hr⟩ | ⟨es, n, kvs, hd, hs, hg, hr⟩
  · exact .inl ⟨vs, n, xs, hd, ga _ hg, hr.shut g st⟩
  · exact .inr ⟨es, n, kvs, hd, hs, ga _ hg, hr.shut g st⟩
theorem RepC.weak {S T : ASet} {h : Heap} {a : Addr} {d : PyData} (x : RepC S h a d) (st : ∀ b, T b → S b) : RepC T h a d := by
  rcases x with ⟨vs, n, xs, hd, hg, hr⟩ | ⟨es, n, kvs, hd, hs, hg, hr⟩
  · exact .inl ⟨vs, n, xs, hd, hg, hr.weak st⟩
  · exact .inr ⟨es, n, kvs, hd, hs, hg, hr.weak st⟩
theorem RepC.rep {S : ASet} {h : Heap} {a : Addr} {d : PyData} (x : RepC S h a d) (ha : ¬ S a) : Rep S h (.ref a) d := by
  rcases x with ⟨vs, n, xs, rfl, hg, hr⟩ | ⟨es, n, kvs, rfl, hs, hg, hr⟩
  · exact .listIs ha hg hr
  · exact .dictIs ha hs hg hr

abbrev Rho := List (Str × PyData)
abbrev Omega := List (Str × Addr × PyData)
/-- what may turn -/
noncomputable def Sx (S₀ Wt : ASet) (env : Env) (ω : Omega) : ASet := fun b => S₀ b ∨ Wt b ∨ b = env.locals ∨ (∃ n, (n, b) ∈ env.cells) ∨ (∃ p ∈ ω, p.2.1 = b)

structure Cx (hb : Heap) (n : Nat) (A : Around) (env : Env) (s₀ : Shared) (S₀ Wt : ASet) (ρ : Rho) (ω : Omega) (s : Shared) : Prop where
  base : ∀ b o, hb.get? b = some o → s₀.heap.get? b = some o
  go : Go0 s₀ s
  room : Room n A
  kind : env.scope.kind = .function
  glob : env.globals = mainGlobals
  blt : env.builtins = builtinsNs
  s0 : ∀ b, S₀ b → ∃ o, s₀.heap.get? b = some o
  wt : ∀ b, Wt b → (∃ o, s.heap.get? b = some o) ∧ s₀.heap.get? b = none
  ns : ∃ m, s.heap.Ns env.locals m
  lnew : s₀.heap.get? env.locals = none
  cell : ∀ x c, (x, c) ∈ env.cells → (∃ v, s.heap.IsCell c v) ∧ s₀.heap.get? c = none ∧ c ≠ env.locals
  apart : env.cells.Pairwise fun x y => x.2 ≠ y.2
  loc : ∀ x d, ρ.lookup x = some d → ∃ v, At env s.heap x v ∧ Rep (Sx S₀ Wt env ω) s.heap v d
  own : ∀ p ∈ ω, At env s.heap p.1 (.ref p.2.1) ∧ s₀.heap.get? p.2.1 = none ∧ p.2.1 ≠ env.locals ∧ (∀ y, (y, p.2.1) ∉ env.cells) ∧ ¬ Wt p.2.1 ∧ RepC (Sx S₀ Wt env ω) s.heap p.2.1 p.2.2
  owna : (ω.map (·.2.1)).Nodup

section
variable {hb : Heap} {n : Nat} {A : Around} {env : Env} {s₀ s s' : Shared} {S₀ Wt : ASet} {ρ ρ' : Rho} {ω : Omega}

theorem Cx.bd (x : Cx hb n A env s₀ S₀ Wt ρ ω s) {b : Addr} (h : Sx S₀ Wt env ω b) : ∃ o, s.heap.get? b = some o := by
  rcases h with h | h | h | h | h
  · obtain ⟨o, e⟩ := x.s0 b h; exact ⟨o, x.go.k0 b o e⟩
  · exact (x.wt b h).1
  · obtain ⟨m, o, _, _, e, _⟩ := x.ns; exact ⟨o, h ▸ e⟩
  · obtain ⟨y, hy⟩ := h; obtain ⟨⟨v, o, e, _⟩, _⟩ := x.cell y b hy; exact ⟨o, e⟩
  · obtain ⟨p, hp, rfl⟩ := h
    rcases (x.own p hp).2.2.2.2.2 with ⟨_, _, _, _, e, _⟩ | ⟨_, _, _, _, _, e, _⟩ <;> exact ⟨_, e⟩

/-- nothing old has turned -/
theorem Cx.keep (x : Cx hb n A env s₀ S₀ Wt ρ ω s) (g : Go0 s s') : Cx hb n A env s₀ S₀ Wt ρ ω s' where
  base := x.base
  go := x.go.tr g
  room := x.room
  kind := x.kind
  glob := x.glob
  blt := x.blt
  s0 := x.s0
  wt := fun b h => ⟨g.ex b _ (x.wt b h).1.choose_spec, (x.wt b h).2⟩
  ns := let ⟨m, h⟩ := x.ns; ⟨m, h.keeps g.k0⟩
  lnew := x.lnew
  cell := fun y c h => ⟨let ⟨v, q⟩ := (x.cell y c h).1; ⟨v, q.keeps g.k0⟩, (x.cell y c h).2⟩
  apart := x.apart
  loc := fun y d h => let ⟨v, a, r⟩ := x.loc y d h; ⟨v, a.kp g.k0, r.go0 g⟩
  own := fun p hp => let ⟨a, b, c, d, e, r⟩ := x.own p hp; ⟨a.kp g.k0, b, c, d, e, r.shut (g.mono fun _ q => q.elim) (fun o => g.k0 _ o) fun _ q => .inl q⟩
  owna := x.owna

theorem Cx.sub (x : Cx hb n A env s₀ S₀ Wt ρ ω s) (h : ∀ y d, ρ'.lookup y = some d → ρ.lookup y = some d) : Cx hb n A env s₀ S₀ Wt ρ' ω s :=
  { x with loc := fun y d e => x.loc y d (h y d e) }

theorem Cx.roomle {m : Nat} (x : Cx hb n A env s₀ S₀ Wt ρ ω s) (h : m ≤ n) : Cx hb m A env s₀ S₀ Wt ρ ω s := { x with room := x.room.le h }
end

section
variable (prog : Program) (w : World) (hb : Heap) (n : Nat) (A : Around) (env : Env)
/-- the expression gives the data d -/
structure EV (ρ : Rho) (ω : Omega) (e : Expr) (d : PyData) : Prop where
  run : ∀ (s₀ : Shared) (S₀ Wt : ASet) (s : Shared) (Q : Value → Shared → Prop) (E : Value → Shared → Prop), Cx hb n A env s₀ S₀ Wt ρ ω s →
      (∀ v s', Go0 s s' → Rep (Sx S₀ Wt env ω) s'.heap v d → Q v s') → wpAny (model prog w) A (eval e env) Q E s
/-- the test gives b -/
structure EB (ρ : Rho) (ω : Omega) (e : Expr) (b : Bool) : Prop where
  run : ∀ (s₀ : Shared) (S₀ Wt : ASet) (s : Shared) (Q : Bool → Shared → Prop) (E : Value → Shared → Prop), Cx hb n A env s₀ S₀ Wt ρ ω s →
      (∀ s', Go0 s s' → Q b s') → wpAny (model prog w) A (isTrue e env (eval e env)) Q E s
/-- a list of expressions -/
structure EVs (ρ : Rho) (ω : Omega) (es : List Expr) (ds : List PyData) : Prop where
  run : ∀ (s₀ : Shared) (S₀ Wt : ASet) (s : Shared) (pos : Pos) (Q : List Value → Shared → Prop) (E : Value → Shared → Prop), Cx hb n A env s₀ S₀ Wt ρ ω s →
      (∀ vs s', Go0 s s' → Reps (Sx S₀ Wt env ω) s'.heap vs ds → Q vs s') → wpAny (model prog w) A (spliced (backTo pos (starEach es env))) Q E s
end

section
variable {prog : Program} {w : World} {hb : Heap} {n : Nat} {A : Around} {env : Env} {ρ : Rho} {ω : Omega}

theorem EVs.nil : EVs prog w hb n A env ρ ω [] [] := .mk fun s₀ S₀ Wt s pos Q E x h => wpAny_items_nil (h [] s .refl .nil)
theorem EVs.cons {e : Expr} {es : List Expr} {d : PyData} {ds : List PyData} (he : EV prog w hb n A env ρ ω e d) (hs : EVs prog w hb n A env ρ ω es ds)
    (hst : starEach (e :: es) env = (false, eval e env) :: starEach es env := by exact star_cons rfl) : EVs prog w hb n A env ρ ω (e :: es) (d :: ds) := .mk fun s₀ S₀ Wt s pos Q E x h =>
  wpAny_items_cons (he.run s₀ S₀ Wt s _ E x fun v s₁ g₁ r₁ => hs.run s₀ S₀ Wt s₁ pos _ E (x.keep g₁) fun vs s₂ g₂ r₂ => h _ s₂ (g₁.tr g₂) (.cons (r₁.go0 g₂) r₂)) hst

theorem EV.int {i : Int} {k : Nat} {pos : Pos} : EV prog w hb n A env ρ ω (.Constant (.int i) k pos) (.int i) := .mk fun s₀ S₀ Wt s Q E x h => wpAny_Constant_int (h _ _ Go.tok (.int i _))
theorem EV.strc {y : Str} {k : Nat} {pos : Pos} : EV prog w hb n A env ρ ω (.Constant (.str y) k pos) (.str y) := .mk fun s₀ S₀ Wt s Q E x h => wpAny_Constant_str (h _ _ Go.tok (.str y _))
theorem EV.nonec {k : Nat} {pos : Pos} : EV prog w hb n A env ρ ω (.Constant .none k pos) .none := .mk fun s₀ S₀ Wt s Q E x h => wpAny_Constant_none (h _ _ .refl .none)
theorem EV.boolc {b : Bool} {k : Nat} {pos : Pos} : EV prog w hb n A env ρ ω (.Constant (.bool b) k pos) (.bool b) := .mk fun s₀ S₀ Wt s Q E x h => wpAny_Constant_bool (h _ _ .refl (.bool b))

theorem At.load {M : Model} {E : Value → Shared → Prop} {s : Shared} {y : Str} {v : Value} {Q : Value → Shared → Prop} (hk : env.scope.kind = .function) (a : At env s.heap y v) (h : Q v s) (hn : (y == ("__classdict__" : Str)) = false) : wpAny M A (loadName env y) Q E s := by
  rcases a with ⟨hl, m, hns, hm⟩ | ⟨hl, c, hc, hv⟩
  · exact wpAny_loadName_local hk hl hns hm h
  · rcases hl with hl | hl
    · exact wpAny_loadName_cell hk hl hc hv h
    · exact wpAny_loadName_free hk hl hc hv h hn
theorem EV.name {y : Str} {pos : Pos} {d : PyData} (h : ρ.lookup y = some d) (hd : (y == ("__debug__" : Str)) = false := by decide) (hn : (y == ("__classdict__" : Str)) = false := by decide) : EV prog w hb n A env ρ ω (.Name y pos) d := .mk fun s₀ S₀ Wt s Q E x hQ =>
  let ⟨v, a, r⟩ := x.loc y d h
  wpAny_Name (a.load x.kind (hQ v s .refl r) hn) hd

theorem EV.tuple {es : List Expr} {k : Nat} {pos : Pos} {ds : List PyData} (h : EVs prog w hb n A env ρ ω es ds) (hz : ds.length ≤ 1000000 := by exact Nat.le_of_ble_eq_true rfl) : EV prog w hb n A env ρ ω (.Tuple es k pos) (.tuple ds) := .mk fun s₀ S₀ Wt s Q E x hQ =>
  wpAny_Tuple (h.run s₀ S₀ Wt s pos _ E x fun vs s₁ g r => ⟨by rw [r.1]; exact Nat.le_trans hz (by decide), hQ _ _ (g.tr Go.push) (.tupleIs (n := 0) (fun q => by
    obtain ⟨o, e⟩ := (x.keep g).bd q
    rw [fresh_size] at e; cases e) (Heap.get?_push_size _ rfl) (r.go0 Go.push))⟩)
theorem EV.list {es : List Expr} {pos : Pos} {ds : List PyData} (h : EVs prog w hb n A env ρ ω es ds) (hz : ds.length ≤ 1000000 := by exact Nat.le_of_ble_eq_true rfl) : EV prog w hb n A env ρ ω (.List es pos) (.list ds) := .mk fun s₀ S₀ Wt s Q E x hQ =>
  wpAny_List (h.run s₀ S₀ Wt s pos _ E x fun vs s₁ g r => ⟨by rw [r.1]; exact Nat.le_trans hz (by decide), hQ _ _ (g.tr Go.push) (.listIs (n := 0) (fun q => by
    obtain ⟨o, e⟩ := (x.keep g).bd q
    rw [fresh_size] at e; cases e) (Heap.get?_push_size _ rfl) (r.go0 Go.push))⟩)

/-- two operands -/
theorem EV.bin {l r : Expr} {op : Operator} {pos : Pos} {a b d : PyData} (hl : EV prog w hb n A env ρ ω l a) (hr : EV prog w hb n A env ρ ω r b)
    (ho : ∀ (S : ASet) (s : Shared) (u v : Value) (Q E : Value → Shared → Prop), (∀ q, S q → ∃ o, s.heap.get? q = some o) → Rep S s.heap u a → Rep S s.heap v b → (∀ v' s', Go0 s s' → Rep S s'.heap v' d → Q v' s') → wpAny (model prog w) A (binaryOp op u v) Q E s) :
    EV prog w hb n A env ρ ω (.BinOp l op r pos) d := .mk fun s₀ S₀ Wt s Q E x hQ =>
  wpAny_BinOp (hl.run s₀ S₀ Wt s _ E x fun u s₁ g₁ r₁ => hr.run s₀ S₀ Wt s₁ _ E (x.keep g₁) fun v s₂ g₂ r₂ =>
    ho _ s₂ u v Q E (fun q hq => ((x.keep g₁).keep g₂).bd hq) (r₁.go0 g₂) r₂ fun v' s' g₃ r₃ => hQ v' s' ((g₁.tr g₂).tr g₃) r₃)
theorem EV.add {l r : Expr} {pos : Pos} {a b : Int} (hl : EV prog w hb n A env ρ ω l (.int a)) (hr : EV prog w hb n A env ρ ω r (.int b)) : EV prog w hb n A env ρ ω (.BinOp l .Add r pos) (.int (a + b)) :=
  .bin hl hr fun S s u v Q E _ ru rv hQ => by cases ru; cases rv; exact PyProof.Rows.add_int (hQ _ _ Go.tok (.int _ _))
theorem EV.sub {l r : Expr} {pos : Pos} {a b : Int} (hl : EV prog w hb n A env ρ ω l (.int a)) (hr : EV prog w hb n A env ρ ω r (.int b)) : EV prog w hb n A env ρ ω (.BinOp l .Sub r pos) (.int (a - b)) :=
  .bin hl hr fun S s u v Q E _ ru rv hQ => by cases ru; cases rv; exact PyProof.Rows.sub_int (hQ _ _ Go.tok (.int _ _))
theorem EV.mul {l r : Expr} {pos : Pos} {a b : Int} (hl : EV prog w hb n A env ρ ω l (.int a)) (hr : EV prog w hb n A env ρ ω r (.int b)) (hm : IntMulOk a b) : EV prog w hb n A env ρ ω (.BinOp l .Mult r pos) (.int (a * b)) :=
  .bin hl hr fun S s u v Q E _ ru rv hQ => by cases ru; cases rv; exact PyProof.Rows.mul_int (hQ _ _ Go.tok (.int _ _)) hm
end
end Mine

namespace Mine
open PySem PySem.Calls PyProof.Rows

section
variable {prog : Program} {w : World} {hb : Heap} {n : Nat} {A : Around} {env : Env} {ρ : Rho} {ω : Omega}

theorem EV.fdiv {l r : Expr} {pos : Pos} {a b : Int} (hl : EV prog w hb n A env ρ ω l (.int a)) (hr : EV prog w hb n A env ρ ω r (.int b)) (h0 : b ≠ 0) (hp : Builtin.divisionGoesByPylong a b = false) : EV prog w hb n A env ρ ω (.BinOp l .FloorDiv r pos) (.int (a.fdiv b)) :=
  .bin hl hr fun S s u v Q E _ ru rv hQ => by cases ru; cases rv; exact PyProof.Rows.floordiv_int h0 (hQ _ _ Go.tok (.int _ _)) (.inl hp)
theorem EV.fmod {l r : Expr} {pos : Pos} {a b : Int} (hl : EV prog w hb n A env ρ ω l (.int a)) (hr : EV prog w hb n A env ρ ω r (.int b)) (h0 : b ≠ 0) : EV prog w hb n A env ρ ω (.BinOp l .Mod r pos) (.int (a.fmod b)) :=
  .bin hl hr fun S s u v Q E _ ru rv hQ => by cases ru; cases rv; exact PyProof.Rows.mod_int h0 (hQ _ _ Go.tok (.int _ _))
theorem EV.pow {l r : Expr} {pos : Pos} {a b : Int} (hl : EV prog w hb n A env ρ ω l (.int a)) (hr : EV prog w hb n A env ρ ω r (.int b)) (h0 : 0 ≤ b) (hz : (Builtin.Int.intBits a : Int) * b ≤ 2 ^ 27) : EV prog w hb n A env ρ ω (.BinOp l .Pow r pos) (.int (a ^ b.toNat)) :=
  .bin hl hr fun S s u v Q E _ ru rv hQ => by cases ru; cases rv; exact PyProof.Rows.pow_int h0 hz (hQ _ _ Go.tok (.int _ _))
theorem EV.band {l r : Expr} {pos : Pos} {a b : Int} (hl : EV prog w hb n A env ρ ω l (.int a)) (hr : EV prog w hb n A env ρ ω r (.int b)) : EV prog w hb n A env ρ ω (.BinOp l .BitAnd r pos) (.int (Builtin.bitAnd a b)) :=
  .bin hl hr fun S s u v Q E _ ru rv hQ => by cases ru; cases rv; exact PyProof.Rows.and_int (hQ _ _ Go.tok (.int _ _))
theorem EV.neg {x : Expr} {pos : Pos} {a : Int} (h : EV prog w hb n A env ρ ω x (.int a)) : EV prog w hb n A env ρ ω (.UnaryOp .USub x pos) (.int (-a)) := .mk fun s₀ S₀ Wt s Q E x hQ =>
  wpAny_UnaryOp (h.run s₀ S₀ Wt s _ E x fun u s₁ g₁ r₁ => by cases r₁; exact PyProof.Rows.neg_int (hQ _ _ (g₁.tr Go.tok) (.int _ _)))

/-- what a comparison answers -/
structure OpC (op : CmpOp) (a b : PyData) (c : Bool) : Prop where
  run : ∀ (prog : Program) (w : World) (n : Nat) (A : Around) (S : ASet) (s : Shared) (u v : Value) (Q E : Value → Shared → Prop), Room n A → Rep S s.heap u a → Rep S s.heap v b → (∀ s', Go0 s s' → Q (.bool c) s') → wpAny (model prog w) A (compareOp op u v) Q E s
theorem OpC.eqInt {a b : Int} : OpC .Eq (.int a) (.int b) (a == b) := .mk fun _ _ _ _ _ s u v Q E _ ru rv hQ => by cases ru; cases rv; exact PyProof.Rows.eq_int (hQ _ .refl)
theorem OpC.neInt {a b : Int} : OpC .NotEq (.int a) (.int b) (a != b) := .mk fun _ _ _ _ _ s u v Q E _ ru rv hQ => by cases ru; cases rv; exact PyProof.Rows.ne_int (hQ _ .refl)
theorem OpC.ltInt {a b : Int} : OpC .Lt (.int a) (.int b) (decide (a < b)) := .mk fun _ _ _ _ _ s u v Q E _ ru rv hQ => by cases ru; cases rv; exact PyProof.Rows.lt_int (hQ _ .refl)
theorem OpC.leInt {a b : Int} : OpC .LtE (.int a) (.int b) (decide (a ≤ b)) := .mk fun _ _ _ _ _ s u v Q E _ ru rv hQ => by cases ru; cases rv; exact PyProof.Rows.le_int (hQ _ .refl)
theorem OpC.eqStr {a b : Str} : OpC .Eq (.str a) (.str b) (a == b) := .mk fun _ _ _ _ _ s u v Q E _ ru rv hQ => by cases ru; cases rv; exact PyProof.Rows.eq_str (hQ _ .refl)
theorem OpC.isBool {a b : Bool} : OpC .Is (.bool a) (.bool b) (a == b) := .mk fun _ _ _ A _ s u v Q E _ ru rv hQ => by
  cases ru; cases rv
  show wpAny _ A (do return .bool (← isSame (.bool a) (.bool b))) Q E s
  exact wpAny_bind (wpAny_pure (wpAny_pure (by cases a <;> cases b <;> exact hQ _ .refl)))
theorem OpC.isNotBool {a b : Bool} : OpC .IsNot (.bool a) (.bool b) (a != b) := .mk fun _ _ _ A _ s u v Q E _ ru rv hQ => by
  cases ru; cases rv
  show wpAny _ A (do return .bool (!(← isSame (.bool a) (.bool b)))) Q E s
  exact wpAny_bind (wpAny_pure (wpAny_pure (by cases a <;> cases b <;> exact hQ _ .refl)))
theorem OpC.isNone : OpC .Is .none .none true := .mk fun _ _ _ _ _ s u v Q E _ ru rv hQ => by cases ru; cases rv; exact is_none (hQ _ .refl)
theorem OpC.intIsNone {a : Int} : OpC .Is (.int a) .none false := .mk fun _ _ _ _ _ s u v Q E _ ru rv hQ => by cases ru; cases rv; exact is_none (hQ _ .refl)

theorem EB.cmp {l r : Expr} {op : CmpOp} {pos : Pos} {a b : PyData} {c : Bool} (hl : EV prog w hb n A env ρ ω l a) (hr : EV prog w hb n A env ρ ω r b) (ho : OpC op a b c) (hm : behindInMarks op r = false := by with_unfolding_all rfl) :
    EB prog w hb n A env ρ ω (.Compare l [op] [r] pos) c := .mk fun s₀ S₀ Wt s Q E x hQ =>
  wpAny_isTrue_Compare1 (hl.run s₀ S₀ Wt s _ E x fun u s₁ g₁ r₁ => hr.run s₀ S₀ Wt s₁ _ E (x.keep g₁) fun v s₂ g₂ r₂ =>
    ho.run prog w n A _ s₂ u v _ E x.room (r₁.go0 g₂) r₂ fun s' g₃ => wpAny_truthy_bool (hQ s' ((g₁.tr g₂).tr g₃))) hm
theorem EV.cmp {l r : Expr} {op : CmpOp} {pos : Pos} {a b : PyData} {c : Bool} (hl : EV prog w hb n A env ρ ω l a) (hr : EV prog w hb n A env ρ ω r b) (ho : OpC op a b c) (hm : behindInMarks op r = false := by with_unfolding_all rfl) :
    EV prog w hb n A env ρ ω (.Compare l [op] [r] pos) (.bool c) := .mk fun s₀ S₀ Wt s Q E x hQ =>
  wpAny_Compare1 (hl.run s₀ S₀ Wt s _ E x fun u s₁ g₁ r₁ => hr.run s₀ S₀ Wt s₁ _ E (x.keep g₁) fun v s₂ g₂ r₂ =>
    ho.run prog w n A _ s₂ u v _ E x.room (r₁.go0 g₂) r₂ fun s' g₃ => hQ _ s' ((g₁.tr g₂).tr g₃) (.bool c)) hm
theorem EB.not {x : Expr} {pos : Pos} {b : Bool} (h : EB prog w hb n A env ρ ω x b) : EB prog w hb n A env ρ ω (.UnaryOp .Not x pos) (!b) := .mk fun s₀ S₀ Wt s Q E y hQ =>
  wpAny_isTrue_Not (h.run s₀ S₀ Wt s _ E y fun s' g => hQ s' g)
/-- a name that holds a bool, tested -/
theorem EB.val {e : Expr} {b : Bool} (h : EV prog w hb n A env ρ ω e (.bool b)) (he : isTrue e env (eval e env) = (do let v ← eval e env; standAt e.pos; holding [v] (truthy v)) := by rfl) : EB prog w hb n A env ρ ω e b := .mk fun s₀ S₀ Wt s Q E y hQ =>
  wpAny_isTrue_value (h.run s₀ S₀ Wt s _ E y fun v s' g r => by cases r; exact wpAny_truthy_bool (hQ s' g)) he
theorem EB.and2 {x y : Expr} {pos : Pos} {a b : Bool} (hx : EB prog w hb n A env ρ ω x a) (hy : a = true → EB prog w hb n A env ρ ω y b) : EB prog w hb n A env ρ ω (.BoolOp .And [x, y] pos) (a && b) := .mk fun s₀ S₀ Wt s Q E z hQ =>
  wpAny_isTrue_BoolOp (wpAny_allTrue_And_cons (hx.run s₀ S₀ Wt s _ E z fun s₁ g₁ => by
    cases a with
    | false => exact hQ s₁ g₁
    | true => exact wpAny_allTrue_And_cons ((hy rfl).run s₀ S₀ Wt s₁ _ E (z.keep g₁) fun s₂ g₂ => by
        cases b with
        | false => exact hQ s₂ (g₁.tr g₂)
        | true => exact wpAny_allTrue_And_nil (hQ s₂ (g₁.tr g₂)))))
theorem EB.or2 {x y : Expr} {pos : Pos} {a b : Bool} (hx : EB prog w hb n A env ρ ω x a) (hy : a = false → EB prog w hb n A env ρ ω y b) : EB prog w hb n A env ρ ω (.BoolOp .Or [x, y] pos) (a || b) := .mk fun s₀ S₀ Wt s Q E z hQ =>
  wpAny_isTrue_BoolOp (wpAny_allTrue_Or_cons (hx.run s₀ S₀ Wt s _ E z fun s₁ g₁ => by
    cases a with
    | true => exact hQ s₁ g₁
    | false => exact wpAny_allTrue_Or_cons ((hy rfl).run s₀ S₀ Wt s₁ _ E (z.keep g₁) fun s₂ g₂ => by
        cases b with
        | true => exact hQ s₂ (g₁.tr g₂)
        | false => exact wpAny_allTrue_Or_nil (hQ s₂ (g₁.tr g₂)))))
theorem EV.ite {t a b : Expr} {pos : Pos} {c : Bool} {d : PyData} (ht : EB prog w hb n A env ρ ω t c) (ha : c = true → EV prog w hb n A env ρ ω a d) (hb' : c = false → EV prog w hb n A env ρ ω b d) : EV prog w hb n A env ρ ω (.IfExp t a b pos) d := .mk fun s₀ S₀ Wt s Q E x hQ =>
  wpAny_IfExp (ht.run s₀ S₀ Wt s _ E x fun s₁ g₁ => by
    cases c with
    | true => exact (ha rfl).run s₀ S₀ Wt s₁ _ E (x.keep g₁) fun v s' g r => hQ v s' (g₁.tr g) r
    | false => exact (hb' rfl).run s₀ S₀ Wt s₁ _ E (x.keep g₁) fun v s' g r => hQ v s' (g₁.tr g) r)

/-- a container: its parts are known, its root may be one of those that turn -/
noncomputable def RepR (S : ASet) (h : Heap) (v : Value) (d : PyData) : Prop := Rep S h v d ∨ ∃ a, v = .ref a ∧ RepC S h a d
theorem RepR.listOf {S : ASet} {h : Heap} {v : Value} {xs : List PyData} (x : RepR S h v (.list xs)) : ∃ a vs n, v = .ref a ∧ h.get? a = some { cls := .type "list", data := .seq (List.toArray vs) n } ∧ Reps S h vs xs := by
  rcases x with x | ⟨a, rfl, ⟨vs, n, ys, e, hg, hr⟩ | ⟨es, n, kvs, e, hs, hg, hr⟩⟩
  · obtain ⟨a, vs, n, e, _, hg, hr⟩ := x.listOf; exact ⟨a, vs, n, e, hg, hr⟩
  · cases e; exact ⟨a, vs, n, rfl, hg, hr⟩
  · cases e
theorem dictD_inj {a b : List (Int × PyData)} (h : dictD a = dictD b) : a = b := by
  unfold dictD at h
  injection h with h
  induction a generalizing b with
  | nil => cases b with
    | nil => rfl
    | cons => simp at h
  | cons x a ih => cases b with
    | nil => simp at h
    | cons y b =>
      simp only [List.map_cons, List.cons.injEq, Prod.mk.injEq, PyData.int.injEq] at h
      rw [ih h.2, show x = y from Prod.ext h.1.1 h.1.2]
theorem RepR.dictOf {S : ASet} {h : Heap} {v : Value} {kvs : List (Int × PyData)} (x : RepR S h v (dictD kvs)) : ∃ a es n, v = .ref a ∧ (a == sysModules) = false ∧ h.get? a = some { cls := .type "dict", data := .dict (List.toArray es) n } ∧ DRow S h es kvs := by
  rcases x with x | ⟨a, rfl, ⟨vs, n, ys, e, hg, hr⟩ | ⟨es, n, kvs', e, hs, hg, hr⟩⟩
  · obtain ⟨a, vs, n, e, _, hs, hg, hr⟩ := x.dictOf; exact ⟨a, vs, n, e, hs, hg, hr⟩
  · unfold dictD at e; cases e
  · rw [dictD_inj e]; exact ⟨a, es, n, rfl, hs, hg, hr⟩
theorem RepR.go0 {S : ASet} {s s' : Shared} {v : Value} {d : PyData} (x : RepR S s.heap v d) (g : Go0 s s') : RepR S s'.heap v d := by
  rcases x with x | ⟨a, rfl, x⟩
  · exact .inl (x.go0 g)
  · exact .inr ⟨a, rfl, x.shut (g.mono fun _ q => q.elim) (fun o => g.k0 _ o) fun _ q => .inl q⟩

structure EVR (prog : Program) (w : World) (hb : Heap) (n : Nat) (A : Around) (env : Env) (ρ : Rho) (ω : Omega) (e : Expr) (d : PyData) : Prop where
  run : ∀ (s₀ : Shared) (S₀ Wt : ASet) (s : Shared) (Q : Value → Shared → Prop) (E : Value → Shared → Prop), Cx hb n A env s₀ S₀ Wt ρ ω s →
      (∀ v s', Go0 s s' → RepR (Sx S₀ Wt env ω) s'.heap v d → Q v s') → wpAny (model prog w) A (eval e env) Q E s
theorem EV.toR {e : Expr} {d : PyData} (h : EV prog w hb n A env ρ ω e d) : EVR prog w hb n A env ρ ω e d := .mk fun s₀ S₀ Wt s Q E x hQ => h.run s₀ S₀ Wt s Q E x fun v s' g r => hQ v s' g (.inl r)
noncomputable def ownLook : Omega → Str → Option (Addr × PyData)
  | [], _ => none
  | p :: r, y => if p.1 == y then some p.2 else ownLook r y
theorem ownLook_mem : ∀ {ω : Omega} {y : Str} {p : Addr × PyData}, ownLook ω y = some p → (y, p) ∈ ω
  | [], _, _, h => by cases h
  | q :: r, y, p, h => by
    unfold ownLook at h
    split at h
    · rename_i e; cases h; rw [← beq_iff_eq.mp e]; exact .head _
    · exact .tail _ (ownLook_mem h)
theorem EVR.own {y : Str} {pos : Pos} {a : Addr} {d : PyData} (h : ownLook ω y = some (a, d)) (hd : (y == ("__debug__" : Str)) = false := by decide) (hn : (y == ("__classdict__" : Str)) = false := by decide) : EVR prog w hb n A env ρ ω (.Name y pos) d := .mk fun s₀ S₀ Wt s Q E x hQ =>
  let ⟨at_, _, _, _, _, r⟩ := x.own _ (ownLook_mem h)
  wpAny_Name (at_.load x.kind (hQ _ s .refl (.inr ⟨a, rfl, r⟩)) hn) hd

theorem isList_of {h : Heap} {a : Addr} {vs : List Value} {n : Nat} (hg : h.get? a = some { cls := .type "list", data := .seq vs.toArray n }) : h.IsList a vs.toArray := ⟨_, hg, rfl, n, rfl⟩
theorem isTup_of {h : Heap} {a : Addr} {vs : List Value} {n : Nat} (hg : h.get? a = some { cls := .type "tuple", data := .seq vs.toArray n }) : IsTup h a vs.toArray := ⟨_, hg, rfl, n, rfl⟩
theorem Reps.at {S : ASet} {h : Heap} {vs : List Value} {xs : List PyData} {i : Nat} {d : PyData} (r : Reps S h vs xs) (hd : xs[i]? = some d) : ∃ v, vs[i]? = some v ∧ Rep S h v d := by
  have hi : i < vs.length := by rw [r.1]; exact (List.getElem?_eq_some_iff.mp hd).1
  exact ⟨vs[i], List.getElem?_eq_getElem hi, r.2 i _ d (List.getElem?_eq_getElem hi) hd⟩

theorem EV.itemL {o i : Expr} {pos : Pos} {xs : List PyData} {k : Int} {d : PyData} (ho : EVR prog w hb n A env ρ ω o (.list xs)) (hi : EV prog w hb n A env ρ ω i (.int k)) (h0 : 0 ≤ k) (h1 : k < 2 ^ 63) (hd : xs[k.toNat]? = some d)
    (hs : ∀ (a : Addr) (u : Tok), subscripted i false (.ref a) (.int k u) = operate [.ref a, .int k u] (getItem (.ref a) (.int k u)) := by intros; rfl) : EV prog w hb n A env ρ ω (.Subscript o i pos) d := .mk fun s₀ S₀ Wt s Q E x hQ =>
  Subscript_ (ho.run s₀ S₀ Wt s _ E x fun v s₁ g₁ r₁ => hi.run s₀ S₀ Wt s₁ _ E (x.keep g₁) fun u s₂ g₂ r₂ => by
    obtain ⟨a, vs, m, rfl, hg, hr⟩ := (r₁.go0 g₂).listOf
    cases r₂
    obtain ⟨y, hy, ry⟩ := hr.at hd
    exact tail_any (isList_of hg).typeIs slot_list_getitem.lookup (wpAny_getItem_list (isList_of hg) h0 h1 (by simpa using hy) (hQ y s₂ (g₁.tr g₂) ry)) (hs _ _))
theorem EV.itemT {o i : Expr} {pos : Pos} {xs : List PyData} {k : Int} {d : PyData} (ho : EV prog w hb n A env ρ ω o (.tuple xs)) (hi : EV prog w hb n A env ρ ω i (.int k)) (h0 : 0 ≤ k) (h1 : k < 2 ^ 63) (hd : xs[k.toNat]? = some d)
    (hs : ∀ (a : Addr) (u : Tok), subscripted i false (.ref a) (.int k u) = operate [.ref a, .int k u] (getItem (.ref a) (.int k u)) := by intros; rfl) : EV prog w hb n A env ρ ω (.Subscript o i pos) d := .mk fun s₀ S₀ Wt s Q E x hQ =>
  Subscript_ (ho.run s₀ S₀ Wt s _ E x fun v s₁ g₁ r₁ => hi.run s₀ S₀ Wt s₁ _ E (x.keep g₁) fun u s₂ g₂ r₂ => by
    obtain ⟨a, vs, m, rfl, _, hg, hr⟩ := (r₁.go0 g₂).tupleOf
    cases r₂
    obtain ⟨y, hy, ry⟩ := hr.at hd
    have hlt : k.toNat < vs.length := (List.getElem?_eq_some_iff.mp hy).1
    exact tail_any (isTup_of hg).typeIs slot_tuple_getitem.lookup (PyProof.Rows.getItem_tuple (isTup_of hg) (by omega) h1 (j := k.toNat) (by
      simp only [List.size_toArray]
      unfold seqIndex?
      first | (rw [if_pos (by omega)]) | (simp; omega)) (by simpa using hy) (hQ y s₂ (g₁.tr g₂) ry)) (hs _ _))
end
end Mine

namespace Mine
open PySem PySem.Calls PyProof.Rows

theorem Reps.drop {S : ASet} {h : Heap} {vs : List Value} {xs : List PyData} (r : Reps S h vs xs) (k : Nat) : Reps S h (vs.drop k) (xs.drop k) :=
  ⟨by simp [r.1], fun i v d hv hd => r.2 (k + i) v d (by rw [List.getElem?_drop] at hv; exact hv) (by rw [List.getElem?_drop] at hd; exact hd)⟩
theorem Reps.take {S : ASet} {h : Heap} {vs : List Value} {xs : List PyData} (r : Reps S h vs xs) (k : Nat) : Reps S h (vs.take k) (xs.take k) :=
  ⟨by simp [r.1], fun i v d hv hd => r.2 i v d (by
    rw [List.getElem?_take] at hv
    split at hv
    · exact hv
    · cases hv) (by
    rw [List.getElem?_take] at hd
    split at hd
    · exact hd
    · cases hd)⟩

/-- the facts of the top that every step leans on -/
structure TopF (hb : Heap) where
  mg : Str → Option Value
  mb : Str → Option Value
  g : hb.Ns mainGlobals mg
  b : hb.Ns builtinsNs mb
  lim : hb.NoLimit
noncomputable def Glob {hb : Heap} (T : TopF hb) (x : Str) (v : Value) : Prop := T.mg x = some v ∨ (T.mg x = none ∧ T.mb x = some v)

section
variable {prog : Program} {w : World} {hb : Heap} {n : Nat} {A : Around} {env : Env} {ρ : Rho} {ω : Omega}

theorem Cx.hb0 {s₀ s : Shared} {S₀ Wt : ASet} (x : Cx hb n A env s₀ S₀ Wt ρ ω s) : ∀ b o, hb.get? b = some o → s.heap.get? b = some o := fun b o e => x.go.k0 b o (x.base b o e)

theorem glob_name (T : TopF hb) {x : Str} {v : Value} {pos : Pos} {s₀ s : Shared} {S₀ Wt : ASet} {Q E : Value → Shared → Prop} (c : Cx hb n A env s₀ S₀ Wt ρ ω s) (hk : env.kindOf x = some .globalImplicit) (hg : Glob T x v) (h : Q v s) (hd : (x == ("__debug__" : Str)) = false) :
    wpAny (model prog w) A (eval (.Name x pos) env) Q E s := by
  refine Name_function_global c.kind hk ?_ hd
  rcases hg with hg | ⟨hg, hb'⟩
  · exact loadGlobal_global (c.glob ▸ T.g.keeps c.hb0) hg h
  · exact loadGlobal_builtin (c.glob ▸ T.g.keeps c.hb0) hg (c.blt ▸ T.b.keeps c.hb0) hb' h

/-- a global that holds plain data -/
theorem EV.glob (T : TopF hb) {x : Str} {v : Value} {pos : Pos} {d : PyData} (hk : env.kindOf x = some .globalImplicit) (hg : Glob T x v) (hv : ∀ S h, Rep S h v d) (hd : (x == ("__debug__" : Str)) = false := by decide) : EV prog w hb n A env ρ ω (.Name x pos) d := .mk fun s₀ S₀ Wt s Q E c hQ =>
  glob_name T c hk hg (hQ v s .refl (hv _ _)) hd

/-- a built-in function, by data -/
structure BOp (id : String) (ds : List PyData) (d : PyData) : Prop where
  run : ∀ (prog : Program) (w : World) (n : Nat) (A : Around) (S : ASet) (s : Shared) (vs : List Value) (Q E : Value → Shared → Prop), Room n A → (∀ b, S b → ∃ o, s.heap.get? b = some o) → Reps S s.heap vs ds → (∀ v s', Go0 s s' → Rep S s'.heap v d → Q v s') → wpAny (model prog w) A (call (.builtin id) vs) Q E s

theorem EV.callB (T : TopF hb) {f : Str} {id : String} {fp pos : Pos} {e : Expr} {es : List Expr} {ds : List PyData} {d : PyData} (hk : env.kindOf f = some .globalImplicit) (hg : Glob T f (.builtin id)) (ha : EVs prog w hb n A env ρ ω (e :: es) ds) (hc : BOp id ds d)
    (hd : (f == ("__debug__" : Str)) = false := by decide) (he : starEach (e :: es) env = (false, eval e env) :: starEach es env := by exact star_cons rfl) (hp : (backTo pos (starEach es env)).any (·.1) = false := by exact any_star rfl) :
    EV prog w hb n A env ρ ω (.Call (.Name f fp) (e :: es) [] pos) d := .mk fun s₀ S₀ Wt s Q E x hQ => by
  show wpAny _ A (eval (.Name f fp) env >>= fun fv => callWith pos fv [] (backTo pos (starEach (e :: es) env)) (backToKw pos (keywordEach [] env))) Q E s
  refine wpAny_bind (glob_name T x hk hg ?_ hd)
  exact PyProof.Rows.callWith_builtin1 (ha.run s₀ S₀ Wt s pos _ E x fun vs s₁ g r => hc.run prog w n A _ s₁ vs Q E x.room (fun b hb' => (x.keep g).bd hb') r fun v s' g' r' => hQ v s' (g.tr g') r') he hp

/-- a def of the text, by data -/
structure Fn (prog : Program) (w : World) (hb : Heap) (n : Nat) (f : Addr) (g : List PyData → PyData → Prop) : Prop where
  run : ∀ (A : Around) (S : ASet) (s : Shared) (vs : List Value) (ds : List PyData) (d : PyData) (Q E : Value → Shared → Prop), Room n A → (∀ b o, hb.get? b = some o → s.heap.get? b = some o) → (∀ b, S b → ∃ o, s.heap.get? b = some o) →
      g ds d → Reps S s.heap vs ds → (∀ v s', Go0 s s' → Rep S s'.heap v d → Q v s') → wpAny (model prog w) A (call (.ref f) vs) Q E s
noncomputable def IsFn (hb : Heap) (f : Addr) : Prop := ∃ o fd, hb.get? f = some o ∧ o.data = .func fd

theorem EV.callF (T : TopF hb) {f : Str} {a : Addr} {m : Nat} {g : List PyData → PyData → Prop} {fp pos : Pos} {e : Expr} {es : List Expr} {ds : List PyData} {d : PyData} (hk : env.kindOf f = some .globalImplicit) (hg : Glob T f (.ref a)) (hf : IsFn hb a) (F : Fn prog w hb m a g) (hm : m ≤ n)
    (ha : EVs prog w hb n A env ρ ω (e :: es) ds) (hd' : g ds d)
    (hd : (f == ("__debug__" : Str)) = false := by decide) (he : starEach (e :: es) env = (false, eval e env) :: starEach es env := by exact star_cons rfl) :
    EV prog w hb n A env ρ ω (.Call (.Name f fp) (e :: es) [] pos) d := .mk fun s₀ S₀ Wt s Q E x hQ => by
  show wpAny _ A (eval (.Name f fp) env >>= fun fv => callWith pos fv [] (backTo pos (starEach (e :: es) env)) (backToKw pos (keywordEach [] env))) Q E s
  refine wpAny_bind (glob_name T x hk hg ?_ hd)
  obtain ⟨o, fd, ho, hfd⟩ := hf
  refine callWith_function (o := o) (fd := fd) ?_
  have hs := ha.run s₀ S₀ Wt s pos (fun vs s₁ => ((s₁.heap.get? a = some o ∧ o.data = .func fd) ∧ wpAny (model prog w) A (call (.ref a) ([] ++ vs) []) Q E s₁)) E x fun vs s₁ g₁ r => ⟨⟨(x.keep g₁).hb0 _ _ ho, hfd⟩,
    F.run A _ s₁ vs ds d Q E (x.room.le hm) (x.keep g₁).hb0 (fun b hb' => (x.keep g₁).bd hb') hd' r fun v s' g' r' => hQ v s' (g₁.tr g') r'⟩
  rw [he] at hs ⊢
  exact evalArgs_plain hs

theorem EV.sliceFrom {o lo : Expr} {p pos : Pos} {xs : List PyData} {a : Nat} (ho : EV prog w hb n A env ρ ω o (.list xs)) (hl : EV prog w hb n A env ρ ω lo (.int a)) (hz : xs.length ≤ 1000000) (ht : ∀ o' r, letTemporaryGo o o' r = pure () := by intro _ _; rfl) :
    EV prog w hb n A env ρ ω (.Subscript o (.Slice (some lo) none none p) pos) (.list (xs.drop a)) := .mk fun s₀ S₀ Wt s Q E x hQ =>
  wpAny_Subscript_Slice slot_list_getitem.lookup (ho.run s₀ S₀ Wt s _ E x fun v s₁ g₁ r₁ => wpAny_Slice (hl.run s₀ S₀ Wt s₁ _ E (x.keep g₁) fun u s₂ g₂ r₂ => by
    obtain ⟨l, vs, m, rfl, hS, hg, hr⟩ := (r₁.go0 g₂).listOf
    obtain ⟨t₂, rfl⟩ := r₂.intOf
    refine wpAny_pure (wpAny_pure ?_)
    have g₃ : Go0 s₂ { s₂ with heap := s₂.heap.push { cls := .type "slice", data := .fields #[.int a t₂, .none, .none] } } := Go.push
    refine ⟨(isList_of (g₃.k0 _ _ hg)).typeIs, wpAny_getItem_list_slice (isList_of (g₃.k0 _ _ hg)) (Heap.IsSliceOf.new ..) (.int (a : Int) _) .none .none (by simp) ?_ (by simp only [List.size_toArray, hr.1]; exact Nat.le_trans hz (by decide))⟩
    refine hQ _ _ (((g₁.tr g₂).tr g₃).tr Go.push) (.listIs (vs := vs.drop a) (n := 0) (fun q => ?_) ?_ (((hr.go0 g₃).go0 Go.push).drop a))
    · obtain ⟨o', e⟩ := (((x.keep g₁).keep g₂).keep g₃).bd q
      rw [fresh_size] at e; cases e
    · rw [slicePick_from' vs.toArray a]
      exact Heap.get?_push_size _ rfl)) ht

theorem EV.sliceUpto {o hi : Expr} {p pos : Pos} {xs : List PyData} {a : Nat} (ho : EV prog w hb n A env ρ ω o (.list xs)) (hh : EV prog w hb n A env ρ ω hi (.int a)) (hz : xs.length ≤ 2000000) (ht : ∀ o' r, letTemporaryGo o o' r = pure () := by intro _ _; rfl) :
    EV prog w hb n A env ρ ω (.Subscript o (.Slice none (some hi) none p) pos) (.list (xs.take a)) := .mk fun s₀ S₀ Wt s Q E x hQ =>
  wpAny_Subscript_Slice slot_list_getitem.lookup (ho.run s₀ S₀ Wt s _ E x fun v s₁ g₁ r₁ => wpAny_Slice (wpAny_pure (hh.run s₀ S₀ Wt s₁ _ E (x.keep g₁) fun u s₂ g₂ r₂ => by
    obtain ⟨l, vs, m, rfl, hS, hg, hr⟩ := (r₁.go0 g₂).listOf
    obtain ⟨t₂, rfl⟩ := r₂.intOf
    refine wpAny_pure ?_
    have g₃ : Go0 s₂ { s₂ with heap := s₂.heap.push { cls := .type "slice", data := .fields #[.none, .int a t₂, .none] } } := Go.push
    refine ⟨(isList_of (g₃.k0 _ _ hg)).typeIs, wpAny_getItem_list_slice (isList_of (g₃.k0 _ _ hg)) (Heap.IsSliceOf.new ..) .none (.int (a : Int) _) .none (by simp) ?_ (by simp only [List.size_toArray, hr.1]; exact Nat.le_trans hz (by decide))⟩
    refine hQ _ _ (((g₁.tr g₂).tr g₃).tr Go.push) (.listIs (vs := vs.take a) (n := 0) (fun q => ?_) ?_ (((hr.go0 g₃).go0 Go.push).take a))
    · obtain ⟨o', e⟩ := (((x.keep g₁).keep g₂).keep g₃).bd q
      rw [fresh_size] at e; cases e
    · rw [slicePick_upto' vs.toArray a]
      exact Heap.get?_push_size _ rfl))) ht

theorem EV.sliceRun {o lo hi : Expr} {p pos : Pos} {xs : List PyData} {a b : Nat} (ho : EV prog w hb n A env ρ ω o (.list xs)) (hl : EV prog w hb n A env ρ ω lo (.int a)) (hh : EV prog w hb n A env ρ ω hi (.int b)) (hz : xs.length ≤ 1000000) (hab : a ≤ b) (hbl : b ≤ xs.length) (ht : ∀ o' r, letTemporaryGo o o' r = pure () := by intro _ _; rfl) :
    EV prog w hb n A env ρ ω (.Subscript o (.Slice (some lo) (some hi) none p) pos) (.list ((xs.drop a).take (b - a))) := .mk fun s₀ S₀ Wt s Q E x hQ =>
  wpAny_Subscript_Slice slot_list_getitem.lookup (ho.run s₀ S₀ Wt s _ E x fun v s₁ g₁ r₁ => wpAny_Slice (hl.run s₀ S₀ Wt s₁ _ E (x.keep g₁) fun u s₂ g₂ r₂ => hh.run s₀ S₀ Wt s₂ _ E ((x.keep g₁).keep g₂) fun u' s₃ g₃ r₃ => by
    obtain ⟨l, vs, m, rfl, hS, hg, hr⟩ := ((r₁.go0 g₂).go0 g₃).listOf
    obtain ⟨t₂, rfl⟩ := r₂.intOf
    obtain ⟨t₃, rfl⟩ := r₃.intOf
    refine wpAny_pure ?_
    have g₄ : Go0 s₃ { s₃ with heap := s₃.heap.push { cls := .type "slice", data := .fields #[.int a t₂, .int b t₃, .none] } } := Go.push
    refine ⟨(isList_of (g₄.k0 _ _ hg)).typeIs, wpAny_getItem_list_slice (isList_of (g₄.k0 _ _ hg)) (Heap.IsSliceOf.new ..) (.int (a : Int) _) (.int (b : Int) _) .none (by simp) ?_ (by simp only [List.size_toArray, hr.1]; exact Nat.le_trans hz (by decide))⟩
    refine hQ _ _ ((((g₁.tr g₂).tr g₃).tr g₄).tr Go.push) (.listIs (vs := (vs.drop a).take (b - a)) (n := 0) (fun q => ?_) ?_ ((((hr.go0 g₄).go0 Go.push).drop a).take (b - a)))
    · obtain ⟨o', e⟩ := ((((x.keep g₁).keep g₂).keep g₃).keep g₄).bd q
      rw [fresh_size] at e; cases e
    · rw [slicePick_run vs.toArray a b (by simp only [List.size_toArray, hr.1]; exact hbl) hab]
      exact Heap.get?_push_size _ rfl)) ht

theorem EV.addL {l r : Expr} {pos : Pos} {xs ys : List PyData} (hl : EV prog w hb n A env ρ ω l (.list xs)) (hr : EV prog w hb n A env ρ ω r (.list ys)) (hz : xs.length + ys.length ≤ 1000000) : EV prog w hb n A env ρ ω (.BinOp l .Add r pos) (.list (xs ++ ys)) :=
  .bin hl hr fun S s u v Q E bd ru rv hQ => by
    obtain ⟨a, vs, m, rfl, hS, hg, h1⟩ := ru.listOf
    obtain ⟨b, us, m', rfl, hS', hg', h2⟩ := rv.listOf
    refine P.add_list hg hg' (hQ _ _ Go.push (.listIs (vs := vs ++ us) (n := 0) (fun q => ?_) ?_ ((h1.append h2).go0 Go.push))) (by simp only [List.size_toArray, h1.1, h2.1]; exact Nat.le_trans hz (by decide))
    · obtain ⟨o', e⟩ := bd _ q
      rw [fresh_size] at e; cases e
    · rw [show (vs ++ us).toArray = vs.toArray ++ us.toArray by simp]
      exact Heap.get?_push_size _ rfl

theorem EV.mulStr {l r : Expr} {pos : Pos} {y : Str} {k : Int} (hl : EV prog w hb n A env ρ ω l (.str y)) (hr : EV prog w hb n A env ρ ω r (.int k)) (hm : MulOk y k) : EV prog w hb n A env ρ ω (.BinOp l .Mult r pos) (.str (Txt.mul y k)) :=
  .bin hl hr fun S s u v Q E bd ru rv hQ => by
    cases ru; cases rv
    exact SB.mul hm fun t' k' => hQ _ _ Go.tok (.str _ _)

theorem BOp.ord {c : Nat} : BOp "ord" [.str ⟨#[c]⟩] (.int c) := .mk fun _ _ _ _ _ s vs Q E _ _ r hQ => by
  obtain ⟨hl, hr⟩ := r
  obtain ⟨v, rfl⟩ := lenA1 hl
  cases hr 0 v _ rfl rfl; exact P.ord_of_char (hQ _ _ Go.tok (.int _ _))
theorem BOp.chr {i : Int} (hi : (decide (i < 0) || decide (i > 0x10FFFF)) = false) : BOp "chr" [.int i] (.str ⟨#[i.toNat]⟩) := .mk fun _ _ _ _ _ s vs Q E _ _ r hQ => by
  obtain ⟨hl, hr⟩ := r
  obtain ⟨v, rfl⟩ := lenA1 hl
  cases hr 0 v _ rfl rfl; exact P.chr_of_int hi (hQ _ _ Go.tok (.str _ _))
theorem BOp.lenL {xs : List PyData} (h : xs.length ≤ 1000000) : BOp "len" [.list xs] (.int xs.length) := .mk fun _ _ _ _ _ s vs Q E _ _ r hQ => by
  obtain ⟨hl, hr⟩ := r
  obtain ⟨v, rfl⟩ := lenA1 hl
  obtain ⟨a, us, m, rfl, hS, hg, h1⟩ := (hr 0 v _ rfl rfl).listOf
  refine call_len_list (isList_of hg) (by simp only [List.size_toArray, h1.1]; omega) ?_
  have := hQ (.int us.length (s.toks + 1)) { s with toks := s.toks + 1 + 1 } Go.tok (by rw [h1.1]; exact .int _ _)
  simpa using this
theorem BOp.lenS {y : Str} (h : y.length ≤ 1000000) : BOp "len" [.str y] (.int y.length) := .mk fun _ _ _ _ _ s vs Q E _ _ r hQ => by
  obtain ⟨hl, hr⟩ := r
  obtain ⟨v, rfl⟩ := lenA1 hl
  cases hr 0 v _ rfl rfl; exact P.len_str (by omega) (hQ _ _ Go.tok (.int _ _))
end
end Mine

namespace Mine
open PySem PySem.Calls PyProof.Rows

/-- how a run of statements ends -/
inductive Out where
  | next (ρ : Rho) (ω : Omega)
  | ret (d : PyData)

/-- what a run of statements may turn itself -/
noncomputable def Mx (env : Env) (ω : Omega) : ASet := fun b => b = env.locals ∨ (∃ n, (n, b) ∈ env.cells) ∨ (∃ p ∈ ω, p.2.1 = b)
theorem Mx.sx {S₀ Wt : ASet} {env : Env} {ω : Omega} : ∀ b, Mx env ω b → Sx S₀ Wt env ω b := fun _ q => .inr (.inr q)
theorem Mx.sx2 {S₀ Wt : ASet} {env : Env} {ω ω' : Omega} {s : Shared} (h : ∀ b, Mx env ω' b → Mx env ω b ∨ s.heap.get? b = none) : ∀ b, Sx S₀ Wt env ω' b → Sx S₀ Wt env ω b ∨ s.heap.get? b = none := fun b q => by
  rcases q with q | q | q
  · exact .inl (.inl q)
  · exact .inl (.inr (.inl q))
  · exact (h b q).imp (Mx.sx b) id

structure NextOk (hb : Heap) (n : Nat) (A : Around) (env : Env) (s₀ : Shared) (S₀ Wt : ASet) (ω : Omega) (s : Shared) (ρ' : Rho) (ω' : Omega) (s' : Shared) : Prop where
  cx : Cx hb n A env s₀ S₀ Wt ρ' ω' s'
  sx : ∀ b, Mx env ω' b → Mx env ω b ∨ s.heap.get? b = none
  go : Go (Mx env ω) s s'

noncomputable def OutOk (hb : Heap) (n : Nat) (A : Around) (env : Env) (s₀ : Shared) (S₀ Wt : ASet) (ω : Omega) (s : Shared) (out : Out) (f : Flow) (s' : Shared) : Prop := match out with
  | .next ρ' ω' => f = .next ∧ NextOk hb n A env s₀ S₀ Wt ω s ρ' ω' s'
  | .ret d => ∃ v, f = .ret v ∧ Go0 s₀ s' ∧ Rep S₀ s'.heap v d

section
variable (prog : Program) (w : World) (hb : Heap) (n : Nat) (A : Around) (env : Env)
structure ST (ρ : Rho) (ω : Omega) (st : Stmt) (out : Out) : Prop where
  run : ∀ (s₀ : Shared) (S₀ Wt : ASet) (s : Shared) (Q : Flow → Shared → Prop) (E : Value → Shared → Prop), Cx hb n A env s₀ S₀ Wt ρ ω s → (∀ f s', OutOk hb n A env s₀ S₀ Wt ω s out f s' → Q f s') → wpAny (model prog w) A (exec st env) Q E s
structure EX (ρ : Rho) (ω : Omega) (sts : List Stmt) (out : Out) : Prop where
  run : ∀ (s₀ : Shared) (S₀ Wt : ASet) (s : Shared) (Q : Flow → Shared → Prop) (E : Value → Shared → Prop), Cx hb n A env s₀ S₀ Wt ρ ω s → (∀ f s', OutOk hb n A env s₀ S₀ Wt ω s out f s' → Q f s') → wpAny (model prog w) A (execs sts env) Q E s
end

section
variable {prog : Program} {w : World} {hb : Heap} {n : Nat} {A : Around} {env : Env} {ρ ρ' : Rho} {ω ω' : Omega} {s₀ s s' s'' : Shared} {S₀ Wt : ASet}

theorem NextOk.refl (x : Cx hb n A env s₀ S₀ Wt ρ ω s) : NextOk hb n A env s₀ S₀ Wt ω s ρ ω s := ⟨x, fun _ q => .inl q, .refl⟩
theorem NextOk.of (x : Cx hb n A env s₀ S₀ Wt ρ' ω s') (g : Go (Mx env ω) s s') : NextOk hb n A env s₀ S₀ Wt ω s ρ' ω s' := ⟨x, fun _ q => .inl q, g⟩

theorem EX.nil : EX prog w hb n A env ρ ω [] (.next ρ ω) := .mk fun s₀ S₀ Wt s Q E x h => wpAny_execs_nil (h _ _ ⟨rfl, .refl x⟩)

theorem Go.chain {S T : ASet} (g : Go S s s') (g' : Go T s' s'') (h : ∀ b, T b → S b ∨ s.heap.get? b = none) : Go S s s'' :=
  ⟨fun b o hb e => g'.kp b o (fun q => (h b q).elim hb (fun z => by rw [e] at z; cases z)) (g.kp b o hb e), fun b o e => let ⟨o', e'⟩ := g.ex b o e; g'.ex b o' e', fun i gs e => g'.gens i gs (g.gens i gs e), fun q => g'.bare (g.bare q), g'.drawn.trans g.drawn, g'.os.trans g.os⟩

theorem NextOk.after {ρ₂ : Rho} {ω₂ : Omega} (g : Go (Mx env ω) s s') (hs : ∀ b, Mx env ω' b → Mx env ω b ∨ s.heap.get? b = none)
    (h : NextOk hb n A env s₀ S₀ Wt ω' s' ρ₂ ω₂ s'') : NextOk hb n A env s₀ S₀ Wt ω s ρ₂ ω₂ s'' := by
  obtain ⟨x₂, hs₂, g₂⟩ := h
  refine ⟨x₂, fun b q => ?_, g.chain g₂ hs⟩
  rcases hs₂ b q with h' | h'
  · exact hs b h'
  · refine .inr ?_
    cases e : s.heap.get? b with
    | none => rfl
    | some o => obtain ⟨o', e'⟩ := g.ex b o e; rw [h'] at e'; cases e'
theorem NextOk.trans {ρ₁ ρ₂ : Rho} {ω₂ : Omega} (x : NextOk hb n A env s₀ S₀ Wt ω s ρ₁ ω' s') (h : NextOk hb n A env s₀ S₀ Wt ω' s' ρ₂ ω₂ s'') : NextOk hb n A env s₀ S₀ Wt ω s ρ₂ ω₂ s'' := h.after x.go x.sx
theorem OutOk.after {out : Out} {f : Flow} (g : Go (Mx env ω) s s') (hs : ∀ b, Mx env ω' b → Mx env ω b ∨ s.heap.get? b = none)
    (h : OutOk hb n A env s₀ S₀ Wt ω' s' out f s'') : OutOk hb n A env s₀ S₀ Wt ω s out f s'' := by
  cases out with
  | next ρ₂ ω₂ => exact ⟨h.1, h.2.after g hs⟩
  | ret d => exact h

theorem EX.cons {st : Stmt} {rest : List Stmt} {out : Out} (h : ST prog w hb n A env ρ ω st (.next ρ' ω')) (hr : EX prog w hb n A env ρ' ω' rest out) : EX prog w hb n A env ρ ω (st :: rest) out := .mk fun s₀ S₀ Wt s Q E x hQ =>
  wpAny_execs_cons (h.run s₀ S₀ Wt s _ E x fun f s₁ ⟨hf, x', hs, g⟩ => by
    subst hf
    exact hr.run s₀ S₀ Wt s₁ Q E x' fun f s₂ h₂ => hQ f s₂ (h₂.after g hs))
theorem EX.consRet {st : Stmt} {rest : List Stmt} {d : PyData} (h : ST prog w hb n A env ρ ω st (.ret d)) : EX prog w hb n A env ρ ω (st :: rest) (.ret d) := .mk fun s₀ S₀ Wt s Q E x hQ =>
  wpAny_execs_cons (h.run s₀ S₀ Wt s _ E x fun f s₁ h₁ => by
    obtain ⟨v, rfl, g, r⟩ := h₁
    exact hQ _ s₁ ⟨v, rfl, g, r⟩)
theorem EX.one {st : Stmt} {out : Out} (h : ST prog w hb n A env ρ ω st out) : EX prog w hb n A env ρ ω [st] out := by
  cases out with
  | next ρ₁ ω₁ => exact EX.cons h .nil
  | ret d => exact EX.consRet h
theorem EX.sub {sts : List Stmt} {out : Out} (h : EX prog w hb n A env ρ' ω sts out) (hs : ∀ y d, ρ'.lookup y = some d → ρ.lookup y = some d) : EX prog w hb n A env ρ ω sts out := .mk fun s₀ S₀ Wt s Q E x hQ => h.run s₀ S₀ Wt s Q E (x.sub hs) hQ

theorem Sx.s0 {S₀ Wt : ASet} {env : Env} {ω : Omega} : ∀ b, S₀ b → Sx S₀ Wt env ω b := fun _ q => .inl q
theorem ST.ret {e : Expr} {pos : Pos} {d : PyData} (h : EV prog w hb n A env ρ ω e d) : ST prog w hb n A env ρ ω (.Return (some e) pos) (.ret d) := .mk fun s₀ S₀ Wt s Q E x hQ =>
  wpAny_Return_some (h.run s₀ S₀ Wt s _ E x fun v s₁ g r => hQ _ s₁ ⟨v, rfl, x.go.tr g, r.weak Sx.s0⟩)
/-- an own container is handed back -/
theorem ST.retOwn {y : Str} {p pos : Pos} {a : Addr} {d : PyData} (h : ownLook ω y = some (a, d)) (hd : (y == ("__debug__" : Str)) = false := by decide) (hn : (y == ("__classdict__" : Str)) = false := by decide) : ST prog w hb n A env ρ ω (.Return (some (.Name y p)) pos) (.ret d) := .mk fun s₀ S₀ Wt s Q E x hQ =>
  wpAny_Return_some (by
    obtain ⟨at_, hnew, _, _, _, r⟩ := x.own _ (ownLook_mem h)
    refine wpAny_Name (at_.load x.kind (hQ _ s ⟨_, rfl, x.go, (r.weak Sx.s0).rep fun q => ?_⟩) hn) hd
    obtain ⟨o, e⟩ := x.s0 _ q
    exact nomatch (hnew.symm.trans e))
theorem ST.if_ {t : Expr} {body orelse : List Stmt} {pos : Pos} {b : Bool} {out : Out} (ht : EB prog w hb n A env ρ ω t b) (h1 : b = true → EX prog w hb n A env ρ ω body out) (h2 : b = false → EX prog w hb n A env ρ ω orelse out) : ST prog w hb n A env ρ ω (.If t body orelse pos) out := .mk fun s₀ S₀ Wt s Q E x hQ =>
  wpAny_If (ht.run s₀ S₀ Wt s _ E x fun s₁ g => by
    have up : ∀ f s₂, OutOk hb n A env s₀ S₀ Wt ω s₁ out f s₂ → Q f s₂ := fun f s₂ h => hQ f s₂ (h.after (g.mono fun _ q => q.elim) fun _ q => .inl q)
    cases b with
    | true => exact (h1 rfl).run s₀ S₀ Wt s₁ Q E (x.keep g) up
    | false => exact (h2 rfl).run s₀ S₀ Wt s₁ Q E (x.keep g) up)

/-- a name of the frame's own that may be stored -/
noncomputable def Own (env : Env) (y : Str) : Prop := env.kindOf y = some .local ∨ (env.kindOf y = some .cell ∧ ∃ c, env.cells.lookup y = some c)

theorem At.other {h h' : Heap} {a : Addr} {y z : Str} {v v' : Value} {m : Str → Option Value} (at_ : At env h z v') (hz : z ≠ y) (hn : h.Ns env.locals m) (hn' : h'.Ns env.locals fun x => if x = y then some v else m x) (hs : Heap.SameBut env.locals h h') (hc : ∀ c, env.cells.lookup z = some c → c ≠ env.locals) : At env h' z v' := by
  rcases at_ with ⟨hk, m', hm', e⟩ | ⟨hk, c, hl, hv⟩
  · refine .inl ⟨hk, _, hn', ?_⟩
    simp only [hz, if_false]
    rw [← e]; exact hn.agree hm' z
  · exact .inr ⟨hk, c, hl, hv.sameBut hs (hc c hl)⟩

theorem Cx.storeL {y : Str} {v : Value} {h' : Heap} {tk : Nat} {m : Str → Option Value} (x : Cx hb n A env s₀ S₀ Wt ρ ω s) (hk : env.kindOf y = some .local) (hn : s.heap.Ns env.locals m) (hn' : h'.Ns env.locals fun z => if z = y then some v else m z) (hs : Heap.SameBut env.locals s.heap h') (hω : ∀ p ∈ ω, p.1 ≠ y)
    (hρ : ∀ z d, ρ'.lookup z = some d → (z = y ∧ Rep (Sx S₀ Wt env ω) s.heap v d) ∨ (z ≠ y ∧ ρ.lookup z = some d)) :
    Go (Mx env ω) s { s with heap := h', toks := tk } ∧ Cx hb n A env s₀ S₀ Wt ρ' ω { s with heap := h', toks := tk } := by
  have hL : Mx env ω env.locals := .inl rfl
  obtain ⟨oL, _, _, eL, _⟩ := hn'
  have g₀ : Go (Mx env ω) s { s with heap := h', toks := tk } := Go.same hL hs eL
  have g : Go (Sx S₀ Wt env ω) s { s with heap := h', toks := tk } := g₀.mono Mx.sx
  have kp : ∀ b o, b ≠ env.locals → s.heap.get? b = some o → h'.get? b = some o := fun b o hb e => (hs.2 b hb).trans e
  have hn'' : h'.Ns env.locals fun z => if z = y then some v else m z := ⟨oL, _, _, eL, by assumption⟩
  refine ⟨g₀, x.base, ⟨fun b o _ e => ?_, fun b o e => ?_, fun i gs e => x.go.gens i gs e, x.go.bare, x.go.drawn, x.go.os⟩, x.room, x.kind, x.glob, x.blt, x.s0, fun b q => ⟨?_, (x.wt b q).2⟩, ⟨_, hn''⟩, x.lnew, fun z c q => ⟨?_, (x.cell z c q).2⟩, x.apart, fun z d e => ?_, fun p hp => ?_, x.owna⟩
  · have : b ≠ env.locals := fun q => by rw [q, x.lnew] at e; cases e
    exact kp b o this (x.go.k0 b o e)
  · have : b ≠ env.locals := fun q => by rw [q, x.lnew] at e; cases e
    exact ⟨o, kp b o this (x.go.k0 b o e)⟩
  · obtain ⟨o, e⟩ := (x.wt b q).1
    exact g.ex b o e
  · obtain ⟨u, hu⟩ := (x.cell z c q).1
    exact ⟨u, hu.sameBut hs (x.cell z c q).2.2⟩
  · rcases hρ z d e with ⟨rfl, r⟩ | ⟨hz, e'⟩
    · exact ⟨v, .inl ⟨hk, _, hn'', by simp⟩, r.go g⟩
    · obtain ⟨u, at_, r⟩ := x.loc z d e'
      exact ⟨u, at_.other (a := env.locals) hz hn hn'' hs (fun c hc => (x.cell z c (mem_of_lookup hc)).2.2), r.go g⟩
  · obtain ⟨at_, h1, h2, h3, h4, r⟩ := x.own p hp
    exact ⟨at_.other (a := env.locals) (hω p hp) hn hn'' hs (fun c hc => (x.cell _ c (mem_of_lookup hc)).2.2), h1, h2, h3, h4, r.shut g (fun o e => kp _ o h2 e) fun _ q => .inl q⟩

theorem Cx.storeC {y : Str} {v : Value} {c : Addr} {h' : Heap} {tk : Nat} (x : Cx hb n A env s₀ S₀ Wt ρ ω s) (hk : env.kindOf y = some .cell) (hc : env.cells.lookup y = some c) (hn' : h'.IsCell c (some v)) (hs : Heap.SameBut c s.heap h') (hω : ∀ p ∈ ω, p.1 ≠ y)
    (hρ : ∀ z d, ρ'.lookup z = some d → (z = y ∧ Rep (Sx S₀ Wt env ω) s.heap v d) ∨ (z ≠ y ∧ ρ.lookup z = some d)) :
    Go (Mx env ω) s { s with heap := h', toks := tk } ∧ Cx hb n A env s₀ S₀ Wt ρ' ω { s with heap := h', toks := tk } := by
  have hm := mem_of_lookup hc
  have hC : Mx env ω c := .inr (.inl ⟨y, hm⟩)
  obtain ⟨oL, eL, eD⟩ := hn'
  have g₀ : Go (Mx env ω) s { s with heap := h', toks := tk } := Go.same hC hs eL
  have g : Go (Sx S₀ Wt env ω) s { s with heap := h', toks := tk } := g₀.mono Mx.sx
  have kp : ∀ b o, b ≠ c → s.heap.get? b = some o → h'.get? b = some o := fun b o hb e => (hs.2 b hb).trans e
  have cne : c ≠ env.locals := (x.cell y c hm).2.2
  have cnew : s₀.heap.get? c = none := (x.cell y c hm).2.1
  have other : ∀ z u, z ≠ y → At env s.heap z u → At env h' z u := fun z u hz at_ => by
    rcases at_ with ⟨hk', m', hm', e⟩ | ⟨hk', c', hl, hv⟩
    · exact .inl ⟨hk', m', hm'.sameBut hs (Ne.symm cne), e⟩
    · exact .inr ⟨hk', c', hl, hv.sameBut hs fun q => hz (name_of_addr x.apart (mem_of_lookup hl) (q ▸ hm))⟩
  refine ⟨g₀, x.base, ⟨fun b o _ e => ?_, fun b o e => ?_, fun i gs e => x.go.gens i gs e, x.go.bare, x.go.drawn, x.go.os⟩, x.room, x.kind, x.glob, x.blt, x.s0, fun b q => ⟨?_, (x.wt b q).2⟩, ?_, x.lnew, fun z c' q => ⟨?_, (x.cell z c' q).2⟩, x.apart, fun z d e => ?_, fun p hp => ?_, x.owna⟩
  · have : b ≠ c := fun q => by rw [q, cnew] at e; cases e
    exact kp b o this (x.go.k0 b o e)
  · have : b ≠ c := fun q => by rw [q, cnew] at e; cases e
    exact ⟨o, kp b o this (x.go.k0 b o e)⟩
  · obtain ⟨o, e⟩ := (x.wt b q).1
    exact g.ex b o e
  · obtain ⟨m, hn⟩ := x.ns
    exact ⟨m, hn.sameBut hs (Ne.symm cne)⟩
  · by_cases hcc : c' = c
    · exact ⟨some v, hcc ▸ ⟨oL, eL, eD⟩⟩
    · obtain ⟨u, hu⟩ := (x.cell z c' q).1
      exact ⟨u, hu.sameBut hs hcc⟩
  · rcases hρ z d e with ⟨rfl, r⟩ | ⟨hz, e'⟩
    · exact ⟨v, .inr ⟨.inl hk, c, hc, oL, eL, eD⟩, r.go g⟩
    · obtain ⟨u, at_, r⟩ := x.loc z d e'
      exact ⟨u, other z u hz at_, r.go g⟩
  · obtain ⟨at_, h1, h2, h3, h4, r⟩ := x.own p hp
    exact ⟨other _ _ (hω p hp) at_, h1, h2, h3, h4, r.shut g (fun o e => kp _ o (fun q => h3 y (q ▸ hm)) e) fun _ q => .inl q⟩

theorem lookup_cons_cases {y : Str} {d : PyData} {z : Str} {d' : PyData} (e : List.lookup z ((y, d) :: ρ) = some d') : (z = y ∧ d = d') ∨ (z ≠ y ∧ ρ.lookup z = some d') := by
  rw [List.lookup_cons] at e
  cases hb' : z == y with
  | true => rw [hb'] at e; cases e; exact .inl ⟨beq_iff_eq.mp hb', rfl⟩
  | false => rw [hb'] at e; exact .inr ⟨by simpa using hb', e⟩

theorem store_ok {M : Model} {E : Value → Shared → Prop} {y : Str} {v : Value} {d : PyData} {Q : Unit → Shared → Prop} (x : Cx hb n A env s₀ S₀ Wt ρ ω s) (hy : Own env y) (r : Rep (Sx S₀ Wt env ω) s.heap v d) (hω : ∀ p ∈ ω, p.1 ≠ y)
    (h : ∀ s', Go (Mx env ω) s s' → Cx hb n A env s₀ S₀ Wt ((y, d) :: ρ) ω s' → Q () s') : wpAny M A (storeName env y v) Q E s := by
  have hρ : ∀ z d', List.lookup z ((y, d) :: ρ) = some d' → (z = y ∧ Rep (Sx S₀ Wt env ω) s.heap v d') ∨ (z ≠ y ∧ ρ.lookup z = some d') := fun z d' e => by
    rcases lookup_cons_cases e with ⟨h1, h2⟩ | h1
    · exact .inl ⟨h1, h2 ▸ r⟩
    · exact .inr h1
  rcases hy with hk | ⟨hk, c, hc⟩
  · obtain ⟨m, hn⟩ := x.ns
    exact wpAny_storeName_local hk hn (fun h' hn' hs => let z := x.storeL hk hn hn' hs hω hρ; h _ z.1 z.2) (by rw [x.kind]; rfl)
  · obtain ⟨v₀, hv₀⟩ := (x.cell y c (mem_of_lookup hc)).1
    exact wpAny_storeName_cell x.kind hk hc hv₀ fun h' hn' hs => let z := x.storeC (tk := s.toks) hk hc hn' hs hω hρ; h _ z.1 z.2

theorem ST.assign {y : Str} {p pos : Pos} {e : Expr} {d : PyData} (h : EV prog w hb n A env ρ ω e d) (hy : Own env y) (hω : ∀ p ∈ ω, p.1 ≠ y) (hs : swapsWith e (some (.Name y p)) pos.line env = pure false := by rfl) : ST prog w hb n A env ρ ω (.Assign [.Name y p] e pos) (.next ((y, d) :: ρ) ω) := .mk fun s₀ S₀ Wt s Q E x hQ =>
  wpAny_Assign_Name (h.run s₀ S₀ Wt s _ E x fun v s₁ g r => store_ok (x.keep g) hy r hω fun s₂ g₂ x₂ => hQ _ s₂ ⟨rfl, .of x₂ ((g.mono fun _ q => q.elim).tr g₂)⟩) hs
theorem ST.aug {y : Str} {p pos : Pos} {op : Operator} {e : Expr} {d₀ d₁ d : PyData} (h0 : ρ.lookup y = some d₀) (h : EV prog w hb n A env ρ ω e d₁) (hy : Own env y) (hω : ∀ p ∈ ω, p.1 ≠ y)
    (ho : ∀ (S : ASet) (s : Shared) (u v : Value) (Q E : Value → Shared → Prop), (∀ q, S q → ∃ o, s.heap.get? q = some o) → Rep S s.heap u d₀ → Rep S s.heap v d₁ → (∀ v' s', Go0 s s' → Rep S s'.heap v' d → Q v' s') → wpAny (model prog w) A (inplaceOp op u v) Q E s)
    (hn : (y == ("__classdict__" : Str)) = false := by decide) : ST prog w hb n A env ρ ω (.AugAssign (.Name y p) op e pos) (.next ((y, d) :: ρ) ω) := .mk fun s₀ S₀ Wt s Q E x hQ =>
  let ⟨u, at_, r⟩ := x.loc y d₀ h0
  wpAny_AugAssign_Name (at_.load x.kind (h.run s₀ S₀ Wt s _ E x fun v s₁ g₁ r₁ => ho _ s₁ u v _ E (fun q hq => (x.keep g₁).bd hq) (r.go0 g₁) r₁ fun v' s₂ g₂ r₂ =>
    store_ok ((x.keep g₁).keep g₂) hy r₂ hω fun s₃ g₃ x₃ => hQ _ s₃ ⟨rfl, .of x₃ (((g₁.tr g₂).mono fun _ q => q.elim).tr g₃)⟩) hn)
theorem ST.augAdd {y : Str} {p pos : Pos} {e : Expr} {a b : Int} (h0 : ρ.lookup y = some (.int a)) (h : EV prog w hb n A env ρ ω e (.int b)) (hy : Own env y) (hω : ∀ p ∈ ω, p.1 ≠ y) (hn : (y == ("__classdict__" : Str)) = false := by decide) : ST prog w hb n A env ρ ω (.AugAssign (.Name y p) .Add e pos) (.next ((y, .int (a + b)) :: ρ) ω) :=
  .aug h0 h hy hω (hn := hn) fun S s u v Q E _ ru rv hQ => by
    cases ru; cases rv
    exact P.iadd_int (hQ _ _ Go.tok (.int _ _))
theorem ST.augSub {y : Str} {p pos : Pos} {e : Expr} {a b : Int} (h0 : ρ.lookup y = some (.int a)) (h : EV prog w hb n A env ρ ω e (.int b)) (hy : Own env y) (hω : ∀ p ∈ ω, p.1 ≠ y) (hn : (y == ("__classdict__" : Str)) = false := by decide) : ST prog w hb n A env ρ ω (.AugAssign (.Name y p) .Sub e pos) (.next ((y, .int (a - b)) :: ρ) ω) :=
  .aug h0 h hy hω (hn := hn) fun S s u v Q E _ ru rv hQ => by
    cases ru; cases rv
    exact P.isub_int (hQ _ _ Go.tok (.int _ _))
end
end Mine

namespace Mine
open PySem PySem.Calls PyProof.Rows

section
variable (prog : Program) (w : World) (hb : Heap) (n : Nat) (A : Around) (env : Env)
/-- a target takes the data d -/
structure AS (ρ : Rho) (ω : Omega) (t : Expr) (d : PyData) (ρ' : Rho) : Prop where
  run : ∀ (s₀ : Shared) (S₀ Wt : ASet) (s : Shared) (v : Value) (Q : Unit → Shared → Prop) (E : Value → Shared → Prop), Cx hb n A env s₀ S₀ Wt ρ ω s → Rep (Sx S₀ Wt env ω) s.heap v d →
      (∀ s', NextOk hb n A env s₀ S₀ Wt ω s ρ' ω s' → Q () s') → wpAny (model prog w) A (assign t env v) Q E s
structure ASs (ρ : Rho) (ω : Omega) (ts : List Expr) (ds : List PyData) (ρ' : Rho) : Prop where
  len : (assignEach ts env).length = ds.length
  star : (assignEach ts env).findIdx? (·.1) = none
  go : ∀ (s₀ : Shared) (S₀ Wt : ASet) (s : Shared) (vs : List Value) (Q : Unit → Shared → Prop) (E : Value → Shared → Prop), Cx hb n A env s₀ S₀ Wt ρ ω s → Reps (Sx S₀ Wt env ω) s.heap vs ds →
    (∀ s', NextOk hb n A env s₀ S₀ Wt ω s ρ' ω s' → Q () s') → wpAny (model prog w) A (assignInOrder ((assignEach ts env).map (·.2)) vs) Q E s
end

section
variable {prog : Program} {w : World} {hb : Heap} {n : Nat} {A : Around} {env : Env} {ρ ρ' : Rho} {ω ω' : Omega} {s₀ s s' s'' : Shared} {S₀ Wt : ASet}

theorem AS.name {y : Str} {p : Pos} {d : PyData} (hy : Own env y) (hω : ∀ p ∈ ω, p.1 ≠ y) : AS prog w hb n A env ρ ω (.Name y p) d ((y, d) :: ρ) := .mk fun s₀ S₀ Wt s v Q E x r h =>
  wpAny_assign_Name (store_ok x hy r hω fun s' g x' => h s' (.of x' g))
theorem ASs.nil : ASs prog w hb n A env ρ ω [] [] ρ := ⟨rfl, rfl, fun s₀ S₀ Wt s vs Q E x r h => assignInOrder_nil (h s (.refl x))⟩
theorem ASs.cons {y : Str} {p : Pos} {d : PyData} {es : List Expr} {ds : List PyData} (hy : Own env y) (hω : ∀ p ∈ ω, p.1 ≠ y) (hr : ASs prog w hb n A env ((y, d) :: ρ) ω es ds ρ') : ASs prog w hb n A env ρ ω (.Name y p :: es) (d :: ds) ρ' := by
  refine ⟨?_, ?_, fun s₀ S₀ Wt s vs Q E x r h => ?_⟩
  · show (assignEach es env).length + 1 = ds.length + 1
    rw [hr.len]
  · show List.findIdx? _ ((false, assign (.Name y p) env) :: assignEach es env) = none
    rw [List.findIdx?_cons, hr.star]; rfl
  · match vs, r with
    | [], r => exact absurd r.1 (by simp)
    | v :: vs, r =>
      show wpAny _ A (assignInOrder (assign (.Name y p) env :: (assignEach es env).map (·.2)) (v :: vs)) Q E s
      refine assignInOrder_cons ((AS.name hy hω).run s₀ S₀ Wt s v _ E x r.head fun s₁ o₁ => ?_)
      exact hr.go s₀ S₀ Wt s₁ vs Q E o₁.cx (r.tail.go (o₁.go.mono Mx.sx)) fun s₂ o₂ => h s₂ (o₁.trans o₂)

theorem AS.tupleT {ts : List Expr} {k : Nat} {pos : Pos} {ds : List PyData} (h : ASs prog w hb n A env ρ ω ts ds ρ') : AS prog w hb n A env ρ ω (.Tuple ts k pos) (.tuple ds) ρ' := .mk fun s₀ S₀ Wt s v Q E x r hQ => by
  obtain ⟨a, vs, m, rfl, _, hg, hr⟩ := r.tupleOf
  refine assign_Tuple_tuple x.room.handled (isTup_of hg) (by rw [h.len, ← hr.1]; simp) h.star fun h' he => ?_
  have g : Go0 s { s with heap := h' } := Go.heap0 (tk := s.toks) fun b o e => he b o (Nat.ne_of_lt (Heap.lt_size e)) e
  exact h.go s₀ S₀ Wt _ vs Q E (x.keep g) (hr.go0 g) fun s' o => hQ s' (o.after (g.mono fun _ q => q.elim) fun _ q => .inl q)

theorem draw_list {it t : Addr} {items : Array Value} (hne : t ≠ it) : ∀ (n i : Nat) (s : Shared) (Q : List Value → Shared → Prop) {E : Value → Shared → Prop}, s.heap.IsListIter it t i → s.heap.IsList t items → i + n ≤ items.size →
    (∀ h', h'.IsListIter it t (i + n) → Heap.SameBut it s.heap h' → Q ((items.toList.drop i).take n) { s with heap := h' }) → wpAny (model prog w) A (draw (.ref it) n) Q E s
  | 0, i, s, Q, E, hit, _, _, hQ => by
    show wpAny _ _ (pure []) Q E s
    exact wpAny_pure (by simpa using hQ s.heap hit (Heap.SameBut.refl ..))
  | n + 1, i, s, Q, E, hit, ht, hle, hQ => by
    have hlt : i < items.size := by omega
    show wpAny _ _ (pyNext (.ref it) >>= _) Q E s
    refine wpAny_bind (wpAny_pyNext_list_item hit ht (x := items[i]) (by simp [hlt]) fun h₁ hit₁ hs₁ => ?_)
    refine wpAny_bind (wpAny_holding (draw_list hne n (i + 1) _ _ hit₁ (ht.extBut hs₁.extBut hne) (by omega) fun h₂ hit₂ hs₂ => wpAny_pure ?_))
    have hd : items.toList.drop i = items[i] :: items.toList.drop (i + 1) := by simp [List.drop_eq_getElem_cons, hlt]
    have := hQ h₂ (by rw [show i + (n + 1) = i + 1 + n by omega]; exact hit₂) (hs₁.trans hs₂)
    rw [hd, List.take_succ_cons] at this
    exact this

theorem unpackItems_list {t : Addr} {items : Array Value} {Q : List Value → Shared → Prop} {E : Value → Shared → Prop} (hh : A.handled = none) (ht : s.heap.IsList t items)
    (hQ : ∀ h', Heap.ExtBut s.heap.objs.size s.heap h' → Q items.toList { s with heap := h' }) : wpAny (model prog w) A (unpackItems (.ref t) items.size none) Q E s := by
  have hlt : t ≠ s.heap.objs.size := by obtain ⟨o, ho, _⟩ := ht; exact Nat.ne_of_lt (Heap.lt_size ho)
  unfold unpackItems
  refine wpAny_bind ?_
  · unfold notIterableAtAll
    refine wpAny_bind (wpAny_specialOf ht.typeIs slot_list_iter.lookup ?_)
    refine wpAny_pure ?_
    simp only [Bool.false_eq_true, if_false]
    refine wpAny_bind (wpAny_holding (wpAny_pyIter_list ht ?_))
    have ht₀ : ∀ o : Obj, (s.heap.push o).IsList t items := fun o => ht.at fun o' e => Heap.get?_push_of_some _ e
    refine wpAny_bind (wpAny_holding (draw_list hlt items.size 0 _ _ ⟨_, Heap.get?_push_size _ rfl, rfl, rfl⟩ (ht₀ _) (by omega) fun h₁ hit₁ hs₁ => ?_))
    have hall : List.take items.size (List.drop 0 items.toList) = items.toList := by
      rw [List.drop_zero]; exact List.take_of_length_le (by simp)
    rw [hall]
    rw [if_neg (by simp)]
    have ht₁ : h₁.IsList t items := (ht₀ _).extBut hs₁.extBut hlt
    refine wpAny_bind (wpAny_holding (wpAny_pyNext_list_end hh hit₁ ht₁ (by simp) fun h₂ he₂ => ?_))
    simp only [Option.isSome_none, Bool.false_eq_true, if_false]
    refine wpAny_pure (hQ h₂ fun b o hb e => he₂ b o hb (hs₁.extBut b o hb (Heap.get?_push_of_some _ e)))

theorem AS.tupleL {ts : List Expr} {k : Nat} {pos : Pos} {ds : List PyData} (h : ASs prog w hb n A env ρ ω ts ds ρ') : AS prog w hb n A env ρ ω (.Tuple ts k pos) (.list ds) ρ' := .mk fun s₀ S₀ Wt s v Q E x r hQ => by
  obtain ⟨a, vs, m, rfl, _, hg, hr⟩ := r.listOf
  rw [arm_assign_Tuple]
  refine wpAny_bind (wpAny_standAt ?_)
  unfold unpack
  rw [h.star, h.len, show ds.length = vs.toArray.size by rw [← hr.1]; simp]
  refine wpAny_bind (wpAny_holding (unpackItems_list x.room.handled (isList_of hg) fun h' he => ?_))
  have g : Go0 s { s with heap := h' } := Go.heap0 (tk := s.toks) fun b o e => he b o (Nat.ne_of_lt (Heap.lt_size e)) e
  exact h.go s₀ S₀ Wt _ vs Q E (x.keep g) (hr.go0 g) fun s' o => hQ s' (o.after (g.mono fun _ q => q.elim) fun _ q => .inl q)

/-- one statement that unpacks -/
theorem ST.unpack {t e : Expr} {pos : Pos} {d : PyData} (h : EV prog w hb n A env ρ ω e d) (ha : AS prog w hb n A env ρ ω t d ρ')
    (hs : swapsWithSole [t] e pos.line env = pure false := by rfl) (hw : swappedStores [t] e env = pure none := by rfl) (he : (assignEach [t] env).map (·.2) = [PySem.assign t env] := by rfl) :
    ST prog w hb n A env ρ ω (.Assign [t] e pos) (.next ρ' ω) := .mk fun s₀ S₀ Wt s Q E x hQ =>
  wpAny_Assign_stores (h.run s₀ S₀ Wt s _ E x fun v s₁ g r => by
    rw [he]
    show wpAny _ A (do PySem.assign t env v) _ E s₁
    exact ha.run s₀ S₀ Wt s₁ v _ E (x.keep g) r fun s₂ o => hQ _ s₂ ⟨rfl, o.after (g.mono fun _ q => q.elim) fun _ q => .inl q⟩) hs hw

/-- containers -/
noncomputable def IsCont (o : Obj) : Prop := o.cls = .type "list" ∨ o.cls = .type "tuple" ∨ o.cls = .type "dict"
theorem Rep.avoid {S W : ASet} {h : Heap} {v : Value} {d : PyData} (x : Rep S h v d) (hW : ∀ b o, W b → h.get? b = some o → ¬ IsCont o) : Rep (fun b => S b ∨ W b) h v d := by
  induction x with
  | none => exact .none
  | bool b => exact .bool b
  | int i t => exact .int i t
  | str x t => exact .str x t
  | list ha hg hl _ ih => exact .list (fun q => q.elim ha fun q => hW _ _ q hg (.inl rfl)) hg hl ih
  | tuple ha hg hl _ ih => exact .tuple (fun q => q.elim ha fun q => hW _ _ q hg (.inr (.inl rfl))) hg hl ih
  | dict ha hs hg hl hm hn hk _ ih => exact .dict (fun q => q.elim ha fun q => hW _ _ q hg (.inr (.inr rfl))) hs hg hl hm hn hk ih
theorem Reps.avoid {S W : ASet} {h : Heap} {vs : List Value} {ds : List PyData} (x : Reps S h vs ds) (hW : ∀ b o, W b → h.get? b = some o → ¬ IsCont o) : Reps (fun b => S b ∨ W b) h vs ds := ⟨x.1, fun i v d a b => (x.2 i v d a b).avoid hW⟩
theorem RepC.avoid {S W : ASet} {h : Heap} {a : Addr} {d : PyData} (x : RepC S h a d) (hW : ∀ b o, W b → h.get? b = some o → ¬ IsCont o) : RepC (fun b => S b ∨ W b) h a d := by
  rcases x with ⟨vs, n, xs, hd, hg, hr⟩ | ⟨es, n, kvs, hd, hs, hg, hr⟩
  · exact .inl ⟨vs, n, xs, hd, hg, hr.avoid hW⟩
  · exact .inr ⟨es, n, kvs, hd, hs, hg, hr.1, hr.2.1, fun i e kv p q => let ⟨a, b, c⟩ := hr.2.2 i e kv p q; ⟨a, b, c.avoid hW⟩⟩
theorem RepC.cont {S : ASet} {h : Heap} {a : Addr} {d : PyData} (x : RepC S h a d) : ∃ o, h.get? a = some o ∧ IsCont o := by
  rcases x with ⟨vs, n, xs, hd, hg, hr⟩ | ⟨es, n, kvs, hd, hs, hg, hr⟩
  · exact ⟨_, hg, .inl rfl⟩
  · exact ⟨_, hg, .inr (.inr rfl)⟩

/-- only W turns (its objects may even go) -/
structure Gw (S : ASet) (s s' : Shared) : Prop where
  kp : ∀ b o, ¬ S b → s.heap.get? b = some o → s'.heap.get? b = some o
  gens : ∀ (i : Nat) (x : GenState), s.gens[i]? = some x → s'.gens[i]? = some x
  bare : AllBare s.gens → AllBare s'.gens
  drawn : s'.drawn = s.drawn
  os : s'.os = s.os
theorem Go.gw {S : ASet} {s s' : Shared} (g : Go S s s') : Gw S s s' := ⟨g.kp, g.gens, g.bare, g.drawn, g.os⟩
theorem Rep.gw {S W : ASet} {s s' : Shared} {v : Value} {d : PyData} (x : Rep S s.heap v d) (g : Gw W s s') (hW : ∀ b o, W b → s.heap.get? b = some o → ¬ IsCont o) : Rep S s'.heap v d :=
  ((x.avoid hW).mono (T := fun b => S b ∨ W b) (fun b o hb e => g.kp b o (fun q => hb (.inr q)) e) fun _ _ _ q => q).weak fun _ q => .inl q
theorem Reps.gw {S W : ASet} {s s' : Shared} {vs : List Value} {ds : List PyData} (x : Reps S s.heap vs ds) (g : Gw W s s') (hW : ∀ b o, W b → s.heap.get? b = some o → ¬ IsCont o) : Reps S s'.heap vs ds := ⟨x.1, fun i v d a b => (x.2 i v d a b).gw g hW⟩
theorem RepC.gw {S W : ASet} {s s' : Shared} {a : Addr} {d : PyData} (x : RepC S s.heap a d) (g : Gw W s s') (hW : ∀ b o, W b → s.heap.get? b = some o → ¬ IsCont o) : RepC S s'.heap a d := by
  rcases x with ⟨vs, n, xs, hd, hg, hr⟩ | ⟨es, n, kvs, hd, hs, hg, hr⟩
  · exact .inl ⟨vs, n, xs, hd, g.kp _ _ (fun q => hW _ _ q hg (.inl rfl)) hg, hr.gw g hW⟩
  · exact .inr ⟨es, n, kvs, hd, hs, g.kp _ _ (fun q => hW _ _ q hg (.inr (.inr rfl))) hg, hr.1, hr.2.1, fun i e kv p q => let ⟨a, b, c⟩ := hr.2.2 i e kv p q; ⟨a, b, c.gw g hW⟩⟩

/-- apart from the frame -/
structure Apart (s₀ : Shared) (env : Env) (Wt W : ASet) : Prop where
  wt : ∀ b, W b → ¬ Wt b
  new : ∀ b, W b → s₀.heap.get? b = none
  loc : ∀ b, W b → b ≠ env.locals
  cell : ∀ b, W b → ∀ y, (y, b) ∉ env.cells

theorem At.turn {W : ASet} {y : Str} {v : Value} (a : At env s.heap y v) (g : Gw W s s') (p : Apart s₀ env Wt W) : At env s'.heap y v := by
  rcases a with ⟨hk, m, hn, hm⟩ | ⟨hk, c, hc, hv⟩
  · exact .inl ⟨hk, m, hn.at' (fun o e => g.kp _ o (fun q => p.loc _ q rfl) e), hm⟩
  · refine .inr ⟨hk, c, hc, ?_⟩
    obtain ⟨o, e, d⟩ := hv
    exact ⟨o, g.kp c o (fun q => p.cell c q y (mem_of_lookup hc)) e, d⟩

theorem Cx.turn {W : ASet} (x : Cx hb n A env s₀ S₀ Wt ρ ω s) (g : Gw W s s') (p : Apart s₀ env Wt W) (hW : ∀ b o, W b → s.heap.get? b = some o → ¬ IsCont o) : Cx hb n A env s₀ S₀ Wt ρ ω s' where
  base := x.base
  go := ⟨fun b o _ e => g.kp b o (fun q => by rw [p.new b q] at e; cases e) (x.go.k0 b o e), fun b o e => ⟨o, g.kp b o (fun q => by rw [p.new b q] at e; cases e) (x.go.k0 b o e)⟩, fun i gs e => g.gens i gs (x.go.gens i gs e), fun q => g.bare (x.go.bare q), g.drawn.trans x.go.drawn, g.os.trans x.go.os⟩
  room := x.room
  kind := x.kind
  glob := x.glob
  blt := x.blt
  s0 := x.s0
  wt := fun b h => ⟨let ⟨o, e⟩ := (x.wt b h).1; ⟨o, g.kp b o (fun q => p.wt b q h) e⟩, (x.wt b h).2⟩
  ns := let ⟨m, h⟩ := x.ns; ⟨m, h.at' fun o e => g.kp _ o (fun q => p.loc _ q rfl) e⟩
  lnew := x.lnew
  cell := fun y c h => ⟨let ⟨v, o, e, d⟩ := (x.cell y c h).1; ⟨v, o, g.kp c o (fun q => p.cell c q y h) e, d⟩, (x.cell y c h).2⟩
  apart := x.apart
  loc := fun y d h => let ⟨v, a, r⟩ := x.loc y d h; ⟨v, a.turn g p, r.gw g hW⟩
  own := fun q hq => let ⟨a, b, c, d, e, r⟩ := x.own q hq; ⟨a.turn g p, b, c, d, e, r.gw g hW⟩
  owna := x.owna

/-- an iterator over data: S may turn between its turns, W is its own -/
structure Itr (prog : Program) (w : World) (A : Around) (t : Expr) (S : ASet) (I : Addr) (xs : List PyData) (W : ASet) (St : Nat → Shared → Prop) : Prop where
  frame : ∀ k s s', St k s → Go S s s' → St k s'
  nc : ∀ k s b o, St k s → W b → s.heap.get? b = some o → ¬ IsCont o
  item : ∀ k (s : Shared) d (Q : Value → Shared → Prop) (E : Value → Shared → Prop), St k s → xs[k]? = some d → (∀ v s', Go W s s' → St (k + 1) s' → (∀ T : ASet, (∀ b, T b → S b) → (∀ b, T b → ∃ o, s.heap.get? b = some o) → Rep T s'.heap v d) → Q v s') →
    wpAny (model prog w) A (pyNext (.ref I)) (fun r s₁ => match r with | none => False | some v => wpAny (model prog w) A (letOwnedTupleGo t (.ref I) v) (fun _ s' => Q v s') E s₁) E s
  done : ∀ (s : Shared) (Q : Shared → Prop) (E : Value → Shared → Prop), St xs.length s → (∀ s', Gw W s s' → Q s') → wpAny (model prog w) A (pyNext (.ref I)) (fun r s₁ => match r with | none => Q s₁ | some _ => False) E s
  self : ∀ k (s : Shared) (Q : Value → Shared → Prop) (E : Value → Shared → Prop), St k s → Q (.ref I) s → wpAny (model prog w) A (pyIter (.ref I)) Q E s

/-- what stands when an iterator is made at s, and now is s' -/
structure Begun (S₀ Wt : ASet) (env : Env) (ω : Omega) (S W : ASet) (s s' : Shared) : Prop where
  sub : ∀ b, Sx S₀ Wt env ω b → S b
  new : ∀ b, s'.heap.get? b = none → S b
  own : ∀ b, W b → s.heap.get? b = none
  ex : ∀ b, W b → ∃ o, s'.heap.get? b = some o

/-- the expression can be walked over: the data xs -/
structure EI (prog : Program) (w : World) (hb : Heap) (n : Nat) (A : Around) (env : Env) (ρ : Rho) (ω : Omega) (t e : Expr) (xs : List PyData) : Prop where
  run : ∀ (s₀ : Shared) (S₀ Wt : ASet) (s : Shared) (Q : Value → Shared → Prop) (E : Value → Shared → Prop), Cx hb n A env s₀ S₀ Wt ρ ω s →
      (∀ I S W St s', Go0 s s' → Itr prog w A t S I xs W St → Begun S₀ Wt env ω S W s s' → St 0 s' → Q (.ref I) s') → wpAny (model prog w) A (eval e env) (fun x s₁ => wpAny (model prog w) A (pyIter x) Q E s₁) E s

/-- one turn of a for -/
theorem for_step {R : Result → Shared → Prop} {target it body env}
    (h : wpAny (model prog w) A (pyNext it) (fun r s₁ => match r with
      | none => R (.ok .next) s₁
      | some v => wpAny (model prog w) A (letOwnedTupleGo target it v) (fun _ s₁' =>
          wpAny (model prog w) A (assign target env v) (fun _ s₂ => wpAny (model prog w) A (execs body env) (fun f s₃ => match f with
            | .next | .cont => codeAny (model prog w) A (.forLoop target it body [] env) R s₃
            | .brk => R (.ok .next) s₃
            | .ret v => R (.ok (.ret v)) s₃) (notedBy (model prog w) A env fun e s' => R (.error e) s') s₂) (notedBy (model prog w) A env fun e s' => R (.error e) s') s₁') (notedBy (model prog w) A env fun e s' => R (.error e) s') s₁) (notedBy (model prog w) A env fun e s' => R (.error e) s') s) :
    codeAny (model prog w) A (.forLoop target it body [] env) R s := by
  refine codeAny_of_tree ?_
  show wpAny _ A ((forTurn target it body [] env).onRaise (fun x => do noteFrame x env; theTreesLotGoes x)) _ _ s
  refine wpAny_noted ?_
  simp only [forTurn]
  refine wpAny_bind (wpAny_standAt (wpAny_bind (wpAny_onRaise (wpAny_mono h (fun r s₁ h₁ => ?_) fun _ _ h' => wpAny_standAt h'))))
  cases r with
  | none => exact wpAny_pure ⟨rfl, codeAny_block (wpAny_execs_nil h₁)⟩
  | some v =>
    refine wpAny_bind (wpAny_mono h₁ (fun _ s₁' h₁' => ?_) fun _ _ h' => h')
    refine wpAny_bind (wpAny_mono h₁' (fun _ s₂ h₂ => wpAny_bind (wpAny_mono h₂ (fun f s₃ h₃ => ?_) fun _ _ h' => h')) fun _ _ h' => h')
    cases f with
    | next => exact wpAny_pure ⟨rfl, h₃⟩
    | cont => exact wpAny_pure ⟨rfl, h₃⟩
    | brk => exact wpAny_pure h₃
    | ret v => exact wpAny_pure h₃
end

section
variable (prog : Program) (w : World) (hb : Heap) (n : Nat) (A : Around) (env : Env)
/-- the rest of a for: the data still to come are xs -/
structure FL (ρ : Rho) (ω : Omega) (t : Expr) (body : List Stmt) (xs : List PyData) (out : Out) : Prop where
  run : ∀ (s₀ : Shared) (S₀ Wt : ASet) (ωr : Omega) (sr s : Shared) (S : ASet) (I : Addr) (all : List PyData) (W : ASet) (St : Nat → Shared → Prop) (k : Nat) (R : Result → Shared → Prop),
      Itr prog w A t S I all W St → Apart s₀ env Wt W → (∀ b, W b → sr.heap.get? b = none) → NextOk hb n A env s₀ S₀ Wt ωr sr ρ ω s → (∀ b, Sx S₀ Wt env ω b → S b) → (∀ b, s.heap.get? b = none → S b) → St k s → k ≤ all.length → all.drop k = xs →
      (∀ f s', OutOk hb n A env s₀ S₀ Wt ωr sr out f s' → R (.ok f) s') → codeAny (model prog w) A (.forLoop t (.ref I) body [] env) R s
end

section
variable {prog : Program} {w : World} {hb : Heap} {n : Nat} {A : Around} {env : Env} {ρ ρ' ρ'' : Rho} {ω ω' : Omega} {s₀ s s' s'' : Shared} {S₀ Wt : ASet}

theorem NextOk.turn {W : ASet} {ωr : Omega} {sr : Shared} (x : NextOk hb n A env s₀ S₀ Wt ωr sr ρ ω s) (g : Gw W s s') (p : Apart s₀ env Wt W) (hr : ∀ b, W b → sr.heap.get? b = none) (hW : ∀ b o, W b → s.heap.get? b = some o → ¬ IsCont o) : NextOk hb n A env s₀ S₀ Wt ωr sr ρ ω s' :=
  have nw : ∀ b o, sr.heap.get? b = some o → ¬ W b := fun b o e q => by rw [hr b q] at e; cases e
  ⟨x.cx.turn g p hW, x.sx, fun b o hb e => g.kp b o (nw b o e) (x.go.kp b o hb e), fun b o e => let ⟨o', e'⟩ := x.go.ex b o e; ⟨o', g.kp b o' (nw b o e) e'⟩,
    fun i gs e => g.gens i gs (x.go.gens i gs e), fun q => g.bare (x.go.bare q), g.drawn.trans x.go.drawn, g.os.trans x.go.os⟩

theorem drop_cons {α : Type} {l : List α} {k : Nat} {a : α} {r : List α} (h : l.drop k = a :: r) : l[k]? = some a ∧ l.drop (k + 1) = r ∧ k < l.length := by
  have h0 : l[k]? = some a := by rw [show l[k]? = (l.drop k)[0]? by simp, h]; rfl
  exact ⟨h0, by rw [show k + 1 = k + 1 from rfl, ← List.drop_drop, h]; rfl, (List.getElem?_eq_some_iff.mp h0).1⟩

theorem FL.nil {t : Expr} {body : List Stmt} : FL prog w hb n A env ρ ω t body [] (.next ρ ω) := .mk fun s₀ S₀ Wt ωr sr s S I all W St k R it ap hr x hS hn st hk hd hR => by
  have hk' : k = all.length := by
    have := congrArg List.length hd
    simp at this; omega
  subst hk'
  refine for_step (wpAny_mono (it.done s _ _ st fun s' g => hR .next s' ⟨rfl, x.turn g ap hr (fun b o hb' e => it.nc _ _ b o st hb' e)⟩) (fun r s₁ h₁ => ?_) fun _ _ e => e)
  cases r with
  | none => exact h₁
  | some v => exact h₁.elim

theorem for_item {R : Result → Shared → Prop} {t : Expr} {body : List Stmt} {S : ASet} {I : Addr} {all : List PyData} {W : ASet} {St : Nat → Shared → Prop} {k : Nat} {d : PyData} (it : Itr prog w A t S I all W St) (st : St k s) (hd : all[k]? = some d)
    (h : ∀ v s₁, Go W s s₁ → St (k + 1) s₁ → (∀ T : ASet, (∀ b, T b → S b) → (∀ b, T b → ∃ o, s.heap.get? b = some o) → Rep T s₁.heap v d) →
      wpAny (model prog w) A (assign t env v) (fun _ s₂ => wpAny (model prog w) A (execs body env) (fun f s₃ => match f with
            | .next | .cont => codeAny (model prog w) A (.forLoop t (.ref I) body [] env) R s₃
            | .brk => R (.ok .next) s₃
            | .ret v => R (.ok (.ret v)) s₃) (notedBy (model prog w) A env fun e s' => R (.error e) s') s₂) (notedBy (model prog w) A env fun e s' => R (.error e) s') s₁) :
    codeAny (model prog w) A (.forLoop t (.ref I) body [] env) R s := by
  refine for_step (wpAny_mono (it.item k s d (fun v s₁ => wpAny (model prog w) A (assign t env v) (fun _ s₂ => wpAny (model prog w) A (execs body env) (fun f s₃ => match f with
            | .next | .cont => codeAny (model prog w) A (.forLoop t (.ref I) body [] env) R s₃
            | .brk => R (.ok .next) s₃
            | .ret v => R (.ok (.ret v)) s₃) (notedBy (model prog w) A env fun e s' => R (.error e) s') s₂) (notedBy (model prog w) A env fun e s' => R (.error e) s') s₁) _ st hd h) (fun r s₁ h₁ => ?_) fun _ _ e => e)
  cases r with
  | none => exact h₁.elim
  | some v => exact h₁

theorem FL.next {t : Expr} {body : List Stmt} {d : PyData} {xs : List PyData} {out : Out} (ha : AS prog w hb n A env ρ ω t d ρ') (hb' : EX prog w hb n A env ρ' ω body (.next ρ'' ω')) (hr : FL prog w hb n A env ρ'' ω' t body xs out) : FL prog w hb n A env ρ ω t body (d :: xs) out :=
  .mk fun s₀ S₀ Wt ωr sr s S I all W St k R it ap hr' x hS hn st hk hd hR => by
  obtain ⟨hd1, hd2, hk2⟩ := drop_cons hd
  refine for_item it st hd1 fun v s₁ g₁ st₁ r₁ => ?_
  have x₁ := x.turn g₁.gw ap hr' (fun b o hb' e => it.nc _ _ b o st hb' e)
  refine ha.run s₀ S₀ Wt s₁ v _ _ x₁.cx (r₁ _ hS fun b q => x.cx.bd q) fun s₂ o₂ => ?_
  refine hb'.run s₀ S₀ Wt s₂ _ _ o₂.cx fun f s₃ h₃ => ?_
  obtain ⟨rfl, o₃⟩ := h₃
  have hn₁ : ∀ b, s₁.heap.get? b = none → S b := fun b q => hn b (by
    cases e : s.heap.get? b with
    | none => rfl
    | some o => obtain ⟨o', e'⟩ := g₁.ex b o e; rw [q] at e'; cases e')
  have go₁₃ := (o₂.trans o₃).go
  have hS₃ : ∀ b, Sx S₀ Wt env ω' b → S b := fun b q => (Mx.sx2 (o₂.trans o₃).sx b q).elim (hS b) (hn₁ b)
  refine hr.run s₀ S₀ Wt ωr sr s₃ S I all W St (k + 1) R it ap hr' (x₁.trans (o₂.trans o₃)) hS₃ (fun b q => hn₁ b ?_) (it.frame _ _ _ st₁ (go₁₃.mono fun b q => hS b (Mx.sx b q))) hk2 hd2 hR
  cases e : s₁.heap.get? b with
  | none => rfl
  | some o => obtain ⟨o', e'⟩ := go₁₃.ex b o e; rw [q] at e'; cases e'

theorem FL.ret {t : Expr} {body : List Stmt} {d r : PyData} {xs : List PyData} (ha : AS prog w hb n A env ρ ω t d ρ') (hb' : EX prog w hb n A env ρ' ω body (.ret r)) : FL prog w hb n A env ρ ω t body (d :: xs) (.ret r) :=
  .mk fun s₀ S₀ Wt ωr sr s S I all W St k R it ap hr' x hS hn st hk hd hR => by
  obtain ⟨hd1, hd2, hk2⟩ := drop_cons hd
  refine for_item it st hd1 fun v s₁ g₁ st₁ r₁ => ?_
  have x₁ := x.turn g₁.gw ap hr' (fun b o hb' e => it.nc _ _ b o st hb' e)
  refine ha.run s₀ S₀ Wt s₁ v _ _ x₁.cx (r₁ _ hS fun b q => x.cx.bd q) fun s₂ o₂ => ?_
  refine hb'.run s₀ S₀ Wt s₂ _ _ o₂.cx fun f s₃ h₃ => ?_
  obtain ⟨v, rfl, g, rr⟩ := h₃
  exact hR _ s₃ ⟨v, rfl, g, rr⟩

theorem FL.sub {t : Expr} {body : List Stmt} {xs : List PyData} {out : Out} (h : FL prog w hb n A env ρ' ω t body xs out) (hs : ∀ y d, ρ'.lookup y = some d → ρ.lookup y = some d) : FL prog w hb n A env ρ ω t body xs out :=
  .mk fun s₀ S₀ Wt ωr sr s S I all W St k R it ap hr x => h.run s₀ S₀ Wt ωr sr s S I all W St k R it ap hr ⟨x.cx.sub hs, x.sx, x.go⟩

theorem Cx.apartNew (x : Cx hb n A env s₀ S₀ Wt ρ ω s) {W : ASet} (h : ∀ b, W b → s.heap.get? b = none) : Apart s₀ env Wt W where
  wt := fun b q hw => by
    obtain ⟨o, e⟩ := (x.wt b hw).1
    rw [h b q] at e; cases e
  new := fun b q => by
    cases e : s₀.heap.get? b with
    | none => rfl
    | some o => have := x.go.k0 b o e; rw [h b q] at this; cases this
  loc := fun b q e => by
    obtain ⟨m, o, _, _, e', _⟩ := x.ns
    rw [← e, h b q] at e'; cases e'
  cell := fun b q y hm => by
    obtain ⟨⟨v, o, e, _⟩, _⟩ := x.cell y b hm
    rw [h b q] at e; cases e

theorem ST.for_ {t iter : Expr} {body : List Stmt} {pos : Pos} {xs : List PyData} {out : Out} (hi : EI prog w hb n A env ρ ω t iter xs) (hf : FL prog w hb n A env ρ ω t body xs out) (hs : ∀ x, foldedSetIterable iter env x = pure x := by intro _; rfl) :
    ST prog w hb n A env ρ ω (.For t iter body [] pos) out := .mk fun s₀ S₀ Wt s Q E x hQ => by
  have key : ∀ (E' : Value → Shared → Prop), wpAny (model prog w) A (eval iter env) (fun x s₁ => wpAny (model prog w) A (pyIter x) (fun it s₂ =>
      codeAny (model prog w) A (.forLoop t it body [] env) (fun r s' => match r with | .ok f => Q f s' | .error e => cameBackBy (model prog w) A env E e s') s₂) E' s₁) E' s := fun E' =>
    hi.run s₀ S₀ Wt s _ E' x fun I S W St s₁ g it bg st => hf.run s₀ S₀ Wt ω s s₁ S I xs W St 0 _ it (x.apartNew bg.own) bg.own (.of (x.keep g) (g.mono fun _ q => q.elim)) bg.sub bg.new st (Nat.zero_le _) rfl fun f s' h => hQ f s' h
  exact wpAny_For (key E) hs
end
end Mine

namespace Mine
open PySem PySem.Calls PyProof.Rows

section
variable {prog : Program} {w : World} {hb : Heap} {n : Nat} {A : Around} {env : Env} {ρ ρ' : Rho} {ω ω' : Omega} {s₀ s s' s'' : Shared} {S₀ Wt : ASet}

theorem notCont {o : Obj} {T : String} (hc : o.cls = .type T) (h : T ≠ "list" ∧ T ≠ "tuple" ∧ T ≠ "dict") : ¬ IsCont o := by
  rintro (q | q | q) <;> rw [hc] at q <;> injection q with q
  · exact h.1 q
  · exact h.2.1 q
  · exact h.2.2 q
theorem letGo_name {y : Str} {p : Pos} {it v : Value} {Q : Unit → Shared → Prop} {E : Value → Shared → Prop} (h : Q () s) : wpAny (model prog w) A (letOwnedTupleGo (.Name y p) it v) Q E s := wpAny_pure h

/-- letting go a tuple that is not the iterator's own -/
theorem letGo_other {t : Expr} {I : Addr} {o : Obj} {T : String} {v : Value} {Q : Unit → Shared → Prop} {E : Value → Shared → Prop} (ho : s.heap.get? I = some o) (hc : o.cls = .type T)
    (hT : ["enumerate", "zip", "dict_itemiterator", "dict_reverseitemiterator", "odict_iterator", "itertools.zip_longest", "itertools.pairwise"].contains T = false) (h : Q () s) : wpAny (model prog w) A (letOwnedTupleGo t (.ref I) v) Q E s := by
  unfold letOwnedTupleGo
  split
  · split
    · rename_i r a heq
      injection heq with h1 h2
      injection h1 with h1
      subst h1
      refine wpAny_bind (wpAny_load ho ?_)
      rw [hc]
      split
      · rename_i m vs h3 h4
        injection h3 with h3
        subst h3
        rw [hT, Bool.false_and, if_neg (by decide)]
        exact wpAny_pure h
      · exact wpAny_pure h
    · exact wpAny_pure h
  · split
    · rename_i r a heq
      injection heq with h1 h2
      injection h1 with h1
      subst h1
      refine wpAny_bind (wpAny_load ho ?_)
      rw [hc]
      split
      · rename_i m vs h3 h4
        injection h3 with h3
        subst h3
        rw [hT, Bool.false_and, if_neg (by decide)]
        exact wpAny_pure h
      · exact wpAny_pure h
    · exact wpAny_pure h
  · exact wpAny_pure h

theorem Gw.heap {W : ASet} {s : Shared} {h' : Heap} {tk : Nat} (k : ∀ b o, ¬ W b → s.heap.get? b = some o → h'.get? b = some o) : Gw W s { s with heap := h', toks := tk } := ⟨k, fun _ _ e => e, id, rfl, rfl⟩
theorem Gw.go {W : ASet} (g : Gw W s s') (h : ∀ b o, W b → s.heap.get? b = some o → ∃ o', s'.heap.get? b = some o') : Go W s s' :=
  ⟨g.kp, fun b o e => (Classical.em (W b)).elim (fun q => h b o q e) fun q => ⟨o, g.kp b o q e⟩, g.gens, g.bare, g.drawn, g.os⟩

/-- an iterator of the library, as one over data -/
theorem Itr.ofWalks {I : Addr} {fp wr : List Addr} {m : Nat} {P : Nat → Value → Prop} {St : Nat → Heap → Prop} {t : Expr} {S : ASet} {xs : List PyData} {D : Shared → Prop} (V : Walks prog w A I fp wr m P St) (hn : xs.length = m) (hfp : ∀ b ∈ fp, ¬ S b)
    (hst : ∀ i h, St i h → ∀ b ∈ wr, ∃ o, h.get? b = some o ∧ ¬ IsCont o)
    (hgo : ∀ i (s : Shared) v (Q : Unit → Shared → Prop) (E : Value → Shared → Prop), St i s.heap → Q () s → wpAny (model prog w) A (letOwnedTupleGo t (.ref I) v) Q E s)
    (hDf : ∀ s s', D s → Go S s s' → D s') (hDw : ∀ s s', D s → Gw (fun b => b ∈ wr) s s' → (∀ b o, b ∈ wr → s.heap.get? b = some o → ¬ IsCont o) → D s')
    (hrep : ∀ i v d s, P i v → xs[i]? = some d → D s → Rep S s.heap v d) : Itr prog w A t S I xs (fun b => b ∈ wr) (fun k s => St k s.heap ∧ D s) where
  frame := fun k s s' st g => ⟨V.frame k _ _ st.1 fun b hb' o e => g.kp b o (hfp b hb') e, hDf _ _ st.2 g⟩
  nc := fun k s b o st hb' e hc => by
    obtain ⟨o', e', hc'⟩ := hst k _ st.1 b hb'
    rw [e] at e'; cases e'; exact hc' hc
  item := fun k s d Q E st hd hQ => by
    have hk : k < m := hn ▸ (List.getElem?_eq_some_iff.mp hd).1
    refine V.item k s _ E hk st.1 fun v h' tk hP st' hkp => ?_
    have gw : Gw (fun b => b ∈ wr) s { s with heap := h', toks := tk } := Gw.heap hkp
    have nc : ∀ b o, b ∈ wr → s.heap.get? b = some o → ¬ IsCont o := fun b o hb' e hc => by
      obtain ⟨o', e', hc'⟩ := hst k _ st.1 b hb'
      rw [e] at e'; cases e'; exact hc' hc
    have hD' := hDw _ _ st.2 gw nc
    exact hgo (k + 1) _ v _ E st' (hQ v _ (gw.go fun b o hb' _ => let ⟨o', e', _⟩ := hst _ _ st' b hb'; ⟨o', e'⟩) ⟨st', hD'⟩ fun T hT _ => (hrep k v d _ hP hd hD').weak hT)
  done := fun s Q E st hQ => V.done s _ E (hn ▸ st.1) fun h' tk hkp => hQ _ (Gw.heap hkp)
  self := fun k s Q E st h => V.self k s Q E st.1 h

/-- what is shut out when an iterator is made -/
noncomputable def Shut (S₀ Wt : ASet) (env : Env) (ω : Omega) (s' : Shared) : ASet := fun b => Sx S₀ Wt env ω b ∨ s'.heap.get? b = none
theorem Shut.rep {v : Value} {d : PyData} (r : Rep (Sx S₀ Wt env ω) s.heap v d) (g : Go0 s s') : Rep (Shut S₀ Wt env ω s') s'.heap v d := (r.go0 g).shut (s := s') .refl fun _ q => q
theorem Shut.reps {vs : List Value} {ds : List PyData} (r : Reps (Sx S₀ Wt env ω) s.heap vs ds) (g : Go0 s s') : Reps (Shut S₀ Wt env ω s') s'.heap vs ds := ⟨r.1, fun i v d a b => Shut.rep (r.2 i v d a b) g⟩
theorem Shut.not {b : Addr} {o : Obj} (h : ¬ Sx S₀ Wt env ω b) (e : s'.heap.get? b = some o) : ¬ Shut S₀ Wt env ω s' b := fun q => q.elim h fun z => by rw [e] at z; cases z
theorem Shut.begun {W : ASet} (h : ∀ b, W b → s.heap.get? b = none) (he : ∀ b, W b → ∃ o, s'.heap.get? b = some o) : Begun S₀ Wt env ω (Shut S₀ Wt env ω s') W s s' := ⟨fun _ q => .inl q, fun _ q => .inr q, h, he⟩

theorem EI.list {t e : Expr} {xs : List PyData} (h : EV prog w hb n A env ρ ω e (.list xs)) : EI prog w hb n A env ρ ω t e xs := .mk fun s₀ S₀ Wt s Q E x hQ =>
  h.run s₀ S₀ Wt s _ E x fun v s₁ g r => by
    obtain ⟨l, vs, m, rfl, hS, hg, hr⟩ := r.listOf
    refine wpAny_pyIter_list (isList_of hg) ?_
    have g₂ : Go0 s₁ { s₁ with heap := s₁.heap.push { cls := .type "list_iterator", data := .fields #[.ref l, .int 0 0] } } := Go.push
    have hI : ({ s₁ with heap := s₁.heap.push { cls := .type "list_iterator", data := .fields #[.ref l, .int 0 0] } } : Shared).heap.get? s₁.heap.objs.size = some { cls := .type "list_iterator", data := .fields #[.ref l, .int 0 0] } := Heap.get?_push_size _ rfl
    have hnew : s.heap.get? s₁.heap.objs.size = none := by
      cases e : s.heap.get? s₁.heap.objs.size with
      | none => rfl
      | some o => have := g.k0 _ _ e; rw [fresh_size] at this; cases this
    have hne : l ≠ s₁.heap.objs.size := fun q => by rw [q, fresh_size] at hg; cases hg
    have it := Itr.ofWalks (t := t) (S := Shut S₀ Wt env ω { s₁ with heap := s₁.heap.push { cls := .type "list_iterator", data := .fields #[.ref l, .int 0 0] } }) (xs := xs) (D := fun s => Reps (Shut S₀ Wt env ω { s₁ with heap := s₁.heap.push { cls := .type "list_iterator", data := .fields #[.ref l, .int 0 0] } }) s.heap vs xs)
      (Walks.list (prog := prog) (w := w) (A := A) x.room.handled s₁.heap.objs.size l hne vs.toArray) (by simp [hr.1])
      (fun b hb' => by
        simp only [List.mem_cons, List.not_mem_nil, or_false] at hb'
        rcases hb' with rfl | rfl
        · exact Shut.not (fun q => by obtain ⟨o, e⟩ := (x.keep g).bd q; rw [fresh_size] at e; cases e) hI
        · exact Shut.not hS (g₂.k0 _ _ hg))
      (fun i h st b hb' => by
        simp only [List.mem_cons, List.not_mem_nil, or_false] at hb'
        subst hb'
        obtain ⟨o, ho, hc, _⟩ := st.1
        exact ⟨o, ho, notCont hc (by decide)⟩)
      (fun i s v Q E st hq => by
        obtain ⟨o, ho, hc, _⟩ := st.1
        exact letGo_other ho hc (by decide) hq)
      (fun s s' d g => d.go g) (fun s s' d g nc => d.gw g nc)
      (fun i v d s hP hd hD => hD.2 i v d (by simpa using hP) hd)
    refine hQ _ _ _ _ _ (g.tr g₂) it (Shut.begun (fun b hb' => ?_) fun b hb' => ⟨_, by simp only [List.mem_cons, List.not_mem_nil, or_false] at hb'; exact hb' ▸ hI⟩) ⟨⟨⟨_, hI, rfl, rfl⟩, isList_of (g₂.k0 _ _ hg)⟩, Shut.reps hr g₂⟩
    simp only [List.mem_cons, List.not_mem_nil, or_false] at hb'
    exact hb' ▸ hnew

noncomputable def intsD (a : Int) (m : Nat) : List PyData := (List.range m).map fun i => .int (a + (i : Nat))
theorem ints_get {a : Int} {m i : Nat} {d : PyData} (h : (intsD a m)[i]? = some d) : d = .int (a + i) := by
  unfold intsD at h
  rw [List.getElem?_map] at h
  have hi : i < m := by
    rcases Nat.lt_or_ge i m with q | q
    · exact q
    · rw [List.getElem?_eq_none (by simpa using q)] at h; cases h
  rw [List.getElem?_range hi] at h
  simpa using h.symm

theorem EI.rangeOf {t : Expr} {r : Addr} {a b : Int} {t₁ t₂ t₃ : Tok} {m : Nat} {Q : Value → Shared → Prop} {E : Value → Shared → Prop} (x : Cx hb n A env s₀ S₀ Wt ρ ω s) (g : Go0 s s') (hr : IsRange s'.heap r a b 1 t₁ t₂ t₃) (hm : m = (b - a).toNat) (ha : -1000000 ≤ a ∧ a ≤ 1000000) (hb' : -1000000 ≤ b ∧ b ≤ 1000000)
    (hQ : ∀ I S W St s', Go0 s s' → Itr prog w A t S I (intsD a m) W St → Begun S₀ Wt env ω S W s s' → St 0 s' → Q (.ref I) s') : wpAny (model prog w) A (pyIter (.ref r)) Q E s' := by
  have hsz : Builtin.Range.rangeSize a b 1 = (m : Int) := by
    rw [PyProof.Rows.rangeSize_nat, hm]
  have hsm : Builtin.Range.small a b 1 = true := by
    unfold Builtin.Range.small
    rw [hsz]
    have f : ∀ z : Int, -3000000 ≤ z → z ≤ 3000000 → Builtin.Range.rangeFitsLong z = true := fun z h1 h2 => by
      unfold Builtin.Range.rangeFitsLong
      simp; omega
    rw [f a (by omega) (by omega), f b (by omega) (by omega), f m (by omega) (by omega)]
    simp only [show (1 : Int) > 0 from by decide, if_true, f 1 (by decide) (by decide), f (b + (1 - 1)) (by omega) (by omega), Bool.or_true, Bool.and_true]
  refine wpAny_pyIter_range hr hsm ?_
  rw [hsz]
  generalize hs₂ : ({ s' with heap := s'.heap.push { cls := .type "range_iterator", data := .fields #[rawInt a, rawInt (m : Int), rawInt 1] } } : Shared) = s₂
  have g₂ : Go0 s' s₂ := hs₂ ▸ Go.push
  have hI : s₂.heap.get? s'.heap.objs.size = some { cls := .type "range_iterator", data := .fields #[rawInt a, rawInt (m : Int), rawInt 1] } := by rw [← hs₂]; exact Heap.get?_push_size _ rfl
  have hnew : s.heap.get? s'.heap.objs.size = none := by
    cases e : s.heap.get? s'.heap.objs.size with
    | none => rfl
    | some o => have := g.k0 _ _ e; rw [fresh_size] at this; cases this
  have it := Itr.ofWalks (t := t) (S := Shut S₀ Wt env ω s₂) (xs := intsD a m) (D := fun _ => True)
      (Walks.range (prog := prog) (w := w) (A := A) x.room.handled s'.heap.objs.size a 1 m) (by simp [intsD])
      (fun b hb' => by
        simp only [List.mem_cons, List.not_mem_nil, or_false] at hb'
        subst hb'
        exact Shut.not (fun q => by obtain ⟨o, e⟩ := (x.keep g).bd q; rw [fresh_size] at e; cases e) hI)
      (fun i h st b hb' => by
        simp only [List.mem_cons, List.not_mem_nil, or_false] at hb'
        subst hb'
        exact ⟨_, st, notCont rfl (by decide)⟩)
      (fun i s v Q E st hq => letGo_other st rfl (by decide) hq)
      (fun s s' d g => trivial) (fun s s' d g nc => trivial)
      (fun i v d s hP hd hD => by
        obtain ⟨t, rfl⟩ := hP
        rw [ints_get hd, Int.mul_one]; exact .int _ _)
  refine hQ _ _ _ _ _ (g.tr g₂) it (Shut.begun (fun b hb' => ?_) fun b hb' => ⟨_, by simp only [List.mem_cons, List.not_mem_nil, or_false] at hb'; exact hb' ▸ hI⟩) ⟨by simpa using hI, trivial⟩
  simp only [List.mem_cons, List.not_mem_nil, or_false] at hb'
  exact hb' ▸ hnew

theorem EI.range2 (T : TopF hb) {t e₁ e₂ : Expr} {p pos : Pos} {a b : Int} {m : Nat} (hk : env.kindOf "range" = some .globalImplicit) (hg : Glob T "range" (.type "range")) (h12 : EVs prog w hb n A env ρ ω [e₁, e₂] [.int a, .int b]) (hm : m = (b - a).toNat) (ha : -1000000 ≤ a ∧ a ≤ 1000000) (hb' : -1000000 ≤ b ∧ b ≤ 1000000)
    (he : starEach [e₁, e₂] env = (false, eval e₁ env) :: starEach [e₂] env := by exact star_cons rfl) (hp : (backTo pos (starEach [e₂] env)).any (·.1) = false := by exact any_star rfl) :
    EI prog w hb n A env ρ ω t (.Call (.Name "range" p) [e₁, e₂] [] pos) (intsD a m) := .mk fun s₀ S₀ Wt s Q E x hQ => by
  show wpAny _ A (eval (.Name "range" p) env >>= fun fv => callWith pos fv [] (backTo pos (starEach [e₁, e₂] env)) (backToKw pos (keywordEach [] env))) _ E s
  refine wpAny_bind (glob_name T x hk hg ?_ (by decide))
  refine PyProof.Rows.callWith_type1 ?_ he hp
  have hs := h12.run s₀ S₀ Wt s pos (fun vs s₁ => wpAny (model prog w) A (call (.type "range") vs) (fun x s₂ => wpAny (model prog w) A (pyIter x) Q E s₂) E s₁) E x fun vs s₁ g r => ?_
  · exact hs
  · obtain ⟨hl, hr⟩ := r
    obtain ⟨u, v, rfl⟩ := lenA2 hl
    obtain ⟨t₁, rfl⟩ := (hr 0 u _ rfl rfl).intOf
    obtain ⟨t₂, rfl⟩ := (hr 1 v _ rfl rfl).intOf
    refine call_range_2 ?_
    exact EI.rangeOf x (g.tr (Go.heap0 fun b o e => Heap.get?_push_of_some _ e)) (Heap.get?_push_size _ rfl) hm ha hb' hQ

theorem EI.range1 (T : TopF hb) {t e₁ : Expr} {p pos : Pos} {b : Int} {m : Nat} (hk : env.kindOf "range" = some .globalImplicit) (hg : Glob T "range" (.type "range")) (h1 : EVs prog w hb n A env ρ ω [e₁] [.int b]) (hm : m = (b - 0).toNat) (hb' : -1000000 ≤ b ∧ b ≤ 1000000)
    (he : starEach [e₁] env = (false, eval e₁ env) :: starEach [] env := by exact star_cons rfl) :
    EI prog w hb n A env ρ ω t (.Call (.Name "range" p) [e₁] [] pos) (intsD 0 m) := .mk fun s₀ S₀ Wt s Q E x hQ => by
  show wpAny _ A (eval (.Name "range" p) env >>= fun fv => callWith pos fv [] (backTo pos (starEach [e₁] env)) (backToKw pos (keywordEach [] env))) _ E s
  refine wpAny_bind (glob_name T x hk hg ?_ (by decide))
  refine PyProof.Rows.callWith_type1 ?_ he (by rfl)
  have hs := h1.run s₀ S₀ Wt s pos (fun vs s₁ => wpAny (model prog w) A (call (.type "range") vs) (fun x s₂ => wpAny (model prog w) A (pyIter x) Q E s₂) E s₁) E x fun vs s₁ g r => ?_
  · exact hs
  · obtain ⟨hl, hr⟩ := r
    obtain ⟨u, rfl⟩ := lenA1 hl
    obtain ⟨t₁, rfl⟩ := (hr 0 u _ rfl rfl).intOf
    refine call_range_1 ?_
    exact EI.rangeOf x (g.tr (Go.heap0 fun b o e => Heap.get?_push_of_some _ e)) (Heap.get?_push_size _ rfl) hm (by omega) hb' hQ

/-- enumerate -/
noncomputable def enumD (xs : List PyData) : List PyData := xs.zipIdx.map fun p => .tuple [.int p.2, p.1]
theorem enumD_get {xs : List PyData} {i : Nat} {d : PyData} (h : (enumD xs)[i]? = some d) : ∃ x, xs[i]? = some x ∧ d = .tuple [.int i, x] := by
  unfold enumD at h
  rw [List.getElem?_map, List.getElem?_zipIdx] at h
  cases hx : xs[i]? with
  | none => rw [hx] at h; cases h
  | some x => rw [hx] at h; exact ⟨x, rfl, by simpa using h.symm⟩

theorem Itr.enum {ts : List Expr} {k : Nat} {tp : Pos} {S : ASet} {xs : List PyData} {vs : List Value} {e it l : Addr} {m : Nat} (hh : A.handled = none) (hei : e ≠ it) (hle : l ≠ e) (hli : l ≠ it) (he : ¬ S e) (hi : ¬ S it) (hl : ¬ S l) :
    Itr prog w A (.Tuple ts k tp) S e (enumD xs) (fun b => b = e ∨ b = it) (fun i s => ((∃ old, IsEnum s.heap e it i old) ∧ s.heap.IsListIter it l i ∧ s.heap.get? l = some { cls := .type "list", data := .seq vs.toArray m }) ∧ Reps S s.heap vs xs) where
  frame := fun i s s' st g => ⟨⟨let ⟨old, q⟩ := st.1.1; ⟨old, g.kp _ _ he q⟩, st.1.2.1.at fun o q => g.kp _ o hi q, g.kp _ _ hl st.1.2.2⟩, st.2.go g⟩
  nc := fun i s b o st hb' q hc => by
    rcases hb' with rfl | rfl
    · obtain ⟨old, q'⟩ := st.1.1
      rw [q'] at q; cases q
      exact notCont rfl (by decide) hc
    · obtain ⟨o', q', hc', _⟩ := st.1.2.1
      rw [q'] at q; cases q
      exact notCont hc' (by decide) hc
  item := fun i s d Q E st hd hQ => by
    obtain ⟨⟨⟨old, qe⟩, qi, ql⟩, hr⟩ := st
    obtain ⟨x, hx, rfl⟩ := enumD_get hd
    obtain ⟨v, hv, rv⟩ := hr.at hx
    refine wpAny_pyNext_enum_item qe qi (isList_of ql) (x := v) (by simpa using hv) hei fun h' ho hit' hT hsz hk => ?_
    have hTe : s.heap.objs.size ≠ e := Nat.ne_of_gt (Heap.lt_size qe)
    have hTi : s.heap.objs.size ≠ it := by obtain ⟨_, q, _⟩ := qi; exact Nat.ne_of_gt (Heap.lt_size q)
    refine wpAny_letOwnedTupleGo_enum (s := { s with heap := h', toks := s.toks + 1 }) ho fun h₂ he₂ hs₂ => ?_
    have kp : ∀ b o, ¬ (b = e ∨ b = it) → s.heap.get? b = some o → h₂.get? b = some o := fun b o hb' q => (hs₂.2 b fun z => hb' (.inl z)).trans (hk b o (fun z => hb' (.inl z)) (fun z => hb' (.inr z)) q)
    have gw : Gw (fun b => b = e ∨ b = it) s { s with heap := h₂, toks := s.toks + 1 } := Gw.heap kp
    have hit₂ : h₂.IsListIter it l (i + 1) := hit'.at fun o q => (hs₂.2 it (Ne.symm hei)).trans q
    have nc : ∀ b o, (b = e ∨ b = it) → s.heap.get? b = some o → ¬ IsCont o := fun b o hb' q hc => by
      rcases hb' with rfl | rfl
      · rw [qe] at q; cases q
        exact notCont rfl (by decide) hc
      · obtain ⟨o', q', hc', _⟩ := qi
        rw [q'] at q; cases q
        exact notCont hc' (by decide) hc
    have hr₂ : Reps S h₂ vs xs := hr.gw gw nc
    refine hQ _ _ (gw.go fun b o hb' _ => ?_) ⟨⟨⟨v, by simpa using he₂⟩, hit₂, kp _ _ (by rintro (z | z); exact hle z; exact hli z) ql⟩, hr₂⟩ fun T hT' hTb => ?_
    · rcases hb' with rfl | rfl
      · exact ⟨_, he₂⟩
      · obtain ⟨o, q, _⟩ := hit₂; exact ⟨o, q⟩
    · refine .tupleIs (vs := [.int i s.toks, v]) (n := 0) (fun q => ?_) ((hs₂.2 _ hTe).trans hT) (.cons (.int _ _) (.cons ((hr₂.2 i v x hv hx).weak hT') .nil))
      obtain ⟨o, q'⟩ := hTb _ q
      rw [fresh_size] at q'; cases q'
  done := fun s Q E st hQ => by
    obtain ⟨⟨⟨old, qe⟩, qi, ql⟩, hr⟩ := st
    have hlen : (enumD xs).length = vs.length := by simp [enumD, hr.1]
    refine wpAny_pyNext_enum_end hh qe qi (isList_of ql) (by simp [hlen]) fun h' hk => hQ _ (Gw.heap (tk := s.toks) fun b o hb' q => hk b o (fun z => hb' (.inr z)) q)
  self := fun i s Q E st h => by
    obtain ⟨⟨⟨old, qe⟩, _, _⟩, _⟩ := st
    exact wpAny_pyIter_enum qe h

theorem EI.enum (T : TopF hb) {ts : List Expr} {k : Nat} {tp p pos : Pos} {e₁ : Expr} {xs : List PyData} (hk : env.kindOf "enumerate" = some .globalImplicit) (hg : Glob T "enumerate" (.type "enumerate")) (h1 : EVs prog w hb n A env ρ ω [e₁] [.list xs])
    (he : starEach [e₁] env = (false, eval e₁ env) :: starEach [] env := by exact star_cons rfl) :
    EI prog w hb n A env ρ ω (.Tuple ts k tp) (.Call (.Name "enumerate" p) [e₁] [] pos) (enumD xs) := .mk fun s₀ S₀ Wt s Q E x hQ => by
  show wpAny _ A (eval (.Name "enumerate" p) env >>= fun fv => callWith pos fv [] (backTo pos (starEach [e₁] env)) (backToKw pos (keywordEach [] env))) _ E s
  refine wpAny_bind (glob_name T x hk hg ?_ (by decide))
  refine PyProof.Rows.callWith_type1 ?_ he (by rfl)
  have hs := h1.run s₀ S₀ Wt s pos (fun vs s₁ => wpAny (model prog w) A (call (.type "enumerate") vs) (fun x s₂ => wpAny (model prog w) A (pyIter x) Q E s₂) E s₁) E x fun vs s₁ g r => ?_
  · exact hs
  · obtain ⟨hl, hr⟩ := r
    obtain ⟨u, rfl⟩ := lenA1 hl
    obtain ⟨l, us, m, rfl, hS, hg', hr'⟩ := (hr 0 u _ rfl rfl).listOf
    refine call_enumerate_list (isList_of hg') fun h' he' hit' hsz hk' => ?_
    refine wpAny_pyIter_enum (s := { s₁ with heap := h' }) he' ?_
    have g₂ : Go0 s₁ { s₁ with heap := h' } := Go.heap0 (tk := s₁.toks) hk'
    have hlt := Heap.lt_size hg'
    have no : ∀ b, s₁.heap.objs.size ≤ b → s₁.heap.get? b = none := fun b hb' => by
      cases e : s₁.heap.get? b with
      | none => rfl
      | some o => exact absurd (Heap.lt_size e) (Nat.not_lt.mpr hb')
    have fr : ∀ b, s₁.heap.objs.size ≤ b → s.heap.get? b = none := fun b hb' => by
      cases e : s.heap.get? b with
      | none => rfl
      | some o => have := g.k0 _ _ e; rw [no b hb'] at this; cases this
    have nsx : ∀ b, s₁.heap.objs.size ≤ b → ¬ Sx S₀ Wt env ω b := fun b hb' q => by obtain ⟨o, e⟩ := (x.keep g).bd q; rw [no b hb'] at e; cases e
    have it := Itr.enum (prog := prog) (w := w) (A := A) (ts := ts) (k := k) (tp := tp) (S := Shut S₀ Wt env ω { s₁ with heap := h' }) (xs := xs) (vs := us) (e := s₁.heap.objs.size + 1) (it := s₁.heap.objs.size) (l := l) (m := m) x.room.handled (Nat.succ_ne_self _) (Nat.ne_of_lt (Nat.lt_succ_of_lt hlt)) (Nat.ne_of_lt hlt)
      (Shut.not (s' := { s₁ with heap := h' }) (nsx _ (Nat.le_succ _)) he') (let ⟨o, q, _⟩ := hit'; Shut.not (s' := { s₁ with heap := h' }) (nsx _ (Nat.le_refl _)) q) (Shut.not (s' := { s₁ with heap := h' }) hS (hk' _ _ hg'))
    refine hQ _ _ _ _ _ (g.tr g₂) it (Shut.begun (fun b hb' => ?_) fun b hb' => hb'.elim (fun q => ⟨_, q ▸ he'⟩) fun q => let ⟨o, e, _⟩ := hit'; ⟨o, q ▸ e⟩) ⟨⟨⟨_, he'⟩, hit', hk' _ _ hg'⟩, Shut.reps hr' g₂⟩
    rcases hb' with rfl | rfl
    · exact fr _ (Nat.le_succ _)
    · exact fr _ (Nat.le_refl _)
end
end Mine

namespace Mine
open PySem PySem.Calls PyProof.Rows

theorem entry_itemiter_iter : entryFor table "dict_itemiterator.__iter__" = some Builtin.«dict_keyiterator.__iter__» :=
  entryFor_alias (id' := "dict_keyiterator.__iter__") (by kernel_rfl) (by first | rfl | decide +kernel) (by decide +kernel) (by kernel_rfl)
/-- rows of values, by data -/
structure VRow (S : ASet) (h : Heap) (vs : List (Int × Value)) (kvs : List (Int × PyData)) : Prop where
  keys : vs.map (·.1) = kvs.map (·.1)
  reps : Reps S h (vs.map (·.2)) (kvs.map (·.2))
noncomputable def zipv : List DictEntry → List (Int × PyData) → List (Int × Value)
  | e :: es, kv :: kvs => (kv.1, e.val) :: zipv es kvs
  | _, _ => []
theorem DRow.tail {S : ASet} {h : Heap} {e : DictEntry} {es : List DictEntry} {kv : Int × PyData} {kvs : List (Int × PyData)} (r : DRow S h (e :: es) (kv :: kvs)) : DRow S h es kvs :=
  ⟨by simpa using r.1, (List.nodup_cons.mp (by simpa using r.2.1)).2, fun i e' kv' a b => r.2.2 (i + 1) e' kv' (by simpa using a) (by simpa using b)⟩
theorem DRow.zip {S : ASet} {h : Heap} : ∀ {es : List DictEntry} {kvs : List (Int × PyData)}, DRow S h es kvs → VRow S h (zipv es kvs) kvs
  | [], [], r => ⟨rfl, .nil⟩
  | [], _ :: _, r => absurd r.1 (by simp)
  | _ :: _, [], r => absurd r.1 (by simp)
  | e :: es, kv :: kvs, r => by
    have ih := DRow.zip r.tail
    obtain ⟨_, _, hv⟩ := r.2.2 0 e kv rfl rfl
    exact ⟨by simp [zipv, ih.keys], by simp only [zipv, List.map_cons]; exact .cons hv ih.reps⟩
theorem DRow.pairs {S : ASet} {h : Heap} {prog : Program} {w : World} : ∀ {es : List DictEntry} {kvs : List (Int × PyData)}, DRow S h es kvs → Pairs (intKind prog w) es (zipv es kvs)
  | [], [], r => .nil
  | [], _ :: _, r => absurd r.1 (by simp)
  | _ :: _, [], r => absurd r.1 (by simp)
  | e :: es, kv :: kvs, r => by
    obtain ⟨_, ⟨t, hk⟩, _⟩ := r.2.2 0 e kv rfl rfl
    exact .cons (by rw [hk]; exact intKind_is prog w _ _) rfl (DRow.pairs r.tail)
theorem DRow.keysOf {S : ASet} {h : Heap} {prog : Program} {w : World} {es : List DictEntry} {kvs : List (Int × PyData)} (r : DRow S h es kvs) : KeysOf (intKind prog w) es.toArray := fun e he => by
  obtain ⟨i, hi, rfl⟩ := List.getElem_of_mem (List.mem_toArray.mp he)
  have hk : i < kvs.length := r.1 ▸ hi
  obtain ⟨h1, ⟨t, h2⟩, _⟩ := r.2.2 i es[i] kvs[i] (List.getElem?_eq_getElem hi) (List.getElem?_eq_getElem hk)
  exact ⟨kvs[i].1, by rw [h2]; exact intKind_is prog w _ _, h1⟩
theorem DRow.dictAt {S : ASet} {h : Heap} {prog : Program} {w : World} {a : Addr} {n : Nat} {es : List DictEntry} {kvs : List (Int × PyData)} (r : DRow S h es kvs) (hg : h.get? a = some { cls := .type "dict", data := .dict es.toArray n }) : h.DictAt (intKind prog w) a (zipv es kvs) n :=
  ⟨_, _, hg, ⟨rfl, rfl, rfl⟩, rfl, r.keysOf, r.pairs, by rw [r.zip.keys]; exact r.2.1⟩

theorem VRow.shut {S T : ASet} {s s' : Shared} {vs : List (Int × Value)} {kvs : List (Int × PyData)} (x : VRow S s.heap vs kvs) (g : Go S s s') (st : ∀ b, T b → S b ∨ s.heap.get? b = none) : VRow T s'.heap vs kvs := ⟨x.keys, x.reps.shut g st⟩
theorem VRow.weak {S T : ASet} {h : Heap} {vs : List (Int × Value)} {kvs : List (Int × PyData)} (x : VRow S h vs kvs) (st : ∀ b, T b → S b) : VRow T h vs kvs := ⟨x.keys, x.reps.weak st⟩
theorem VRow.at {S : ASet} {h : Heap} {vs : List (Int × Value)} {kvs : List (Int × PyData)} (x : VRow S h vs kvs) {i : Nat} {k : Int} {d : PyData} (e : kvs[i]? = some (k, d)) : ∃ v, vs[i]? = some (k, v) ∧ Rep S h v d := by
  have h1 : (vs.map (·.1))[i]? = some k := by rw [x.keys, List.getElem?_map, e]; rfl
  obtain ⟨v, hv, r⟩ := x.reps.at (i := i) (d := d) (by rw [List.getElem?_map, e]; rfl)
  rw [List.getElem?_map] at h1 hv
  cases q : vs[i]? with
  | none => rw [q] at h1; cases h1
  | some p =>
    rw [q] at h1 hv
    cases h1; cases hv
    exact ⟨p.2, rfl, r⟩
theorem VRow.len {S : ASet} {h : Heap} {vs : List (Int × Value)} {kvs : List (Int × PyData)} (x : VRow S h vs kvs) : vs.length = kvs.length := by have := congrArg List.length x.keys; simpa using this

theorem VRow.dRow {S : ASet} {h : Heap} {prog : Program} {w : World} : ∀ {es : List DictEntry} {vs : List (Int × Value)} {kvs : List (Int × PyData)}, Pairs (intKind prog w) es vs → (∀ e ∈ es, ∃ k, (intKind prog w).is k e.key = true ∧ e.hash = (intKind prog w).hash k) → (vs.map (·.1)).Nodup → VRow S h vs kvs → DRow S h es kvs
  | _, _, kvs, .nil, _, _, r => by
    have := r.len
    match kvs, this with
    | [], _ => exact ⟨rfl, List.nodup_nil, fun i e kv a => by simp at a⟩
  | _, _, kvs, .cons (e := e) (kv := p) (es := es) (kvs := vs) h1 h2 hp, hk, hn, r => by
    have hl := r.len
    match kvs, hl with
    | kv :: kvs, hl =>
      have hkey : p.1 = kv.1 := by have := r.keys; simp at this; exact this.1
      have ih : DRow S h es kvs := VRow.dRow hp (fun e he => hk e (.tail _ he)) (List.nodup_cons.mp hn).2 ⟨by have := r.keys; simp at this; exact this.2, r.reps.tail⟩
      refine ⟨by simp [ih.1], ?_, fun i e' kv' a b => ?_⟩
      · have := hn; rw [r.keys] at this; exact this
      · cases i with
        | zero =>
          simp at a b; subst a; subst b
          obtain ⟨k, q1, q2⟩ := hk e (.head _)
          have hkk : k = p.1 := (intKind prog w).inj _ _ _ q1 h1
          obtain ⟨t, q3⟩ := Value.isInt_shape h1
          refine ⟨?_, ⟨t, by rw [q3, hkey]⟩, ?_⟩
          · rw [q2, hkk, hkey]; rfl
          · rw [h2]; exact r.reps.head
        | succ i => simp at a b; exact ih.2.2 i e' kv' a b
theorem VRow.ofDictOf {S : ASet} {h : Heap} {prog : Program} {w : World} {a : Addr} {vs : List (Int × Value)} {kvs : List (Int × PyData)} (r : VRow S h vs kvs) (hm : h.DictOf (intKind prog w) a vs) : ∃ es n, h.get? a = some { cls := .type "dict", data := .dict (List.toArray es) n } ∧ DRow S h es kvs := by
  obtain ⟨o, es, ep, ho, ⟨c1, c2, c3⟩, hd, hk, hp, hn⟩ := hm
  refine ⟨es.toList, ep, ?_, VRow.dRow hp (fun e he => hk e (by simpa using he)) hn r⟩
  obtain ⟨c, d, dt, sl⟩ := o
  simp only at c1 c2 c3 hd
  subst c1 c2 c3 hd
  simpa using ho

section
variable {prog : Program} {w : World} {hb : Heap} {n : Nat} {A : Around} {env : Env} {ρ ρ' : Rho} {ω ω' : Omega} {s₀ s s' s'' : Shared} {S₀ Wt : ASet}

theorem EI.values {t o : Expr} {apos pos : Pos} {kvs : List (Int × PyData)} (h : EV prog w hb n A env ρ ω o (dictD kvs)) (hbase : attributeBase o "values" env (eval o env) = eval o env := by exact base_plain rfl) (hline : (apos.endLine == pos.line) = true := by rfl) :
    EI prog w hb n A env ρ ω t (.Call (.Attribute o "values" apos) [] [] pos) (kvs.map (·.2)) := .mk fun s₀ S₀ Wt s Q E x hQ => by
  refine wpAny_Call_method (T := "dict") (id := "dict.values") hbase rfl hline F.plainAttrs_dict F.slot_dict_values F.type_dict_values (h.run s₀ S₀ Wt s _ E x fun v s₁ g r => ?_)
  obtain ⟨a, es, m, rfl, hS, hsm, hg, hr⟩ := r.dictOf
  have hd : ∀ h' : Heap, h'.get? a = some { cls := .type "dict", data := .dict es.toArray m } → h'.DictAt (intKind prog w) a (zipv es kvs) m := fun h' e => hr.dictAt (S := Sx S₀ Wt env ω) (h := s₁.heap) hg |> fun q => q.at' fun o e' => by rw [hg] at e'; cases e'; exact e
  refine ⟨⟨_, hg, rfl⟩, fun a' e => by cases e; exact ⟨_, hg, rfl⟩, ?_⟩
  refine method_meetsIn F.slot_dict_values F.entry_dict_values rfl (PySem.evalArgs_none ⟨rfl, ⟨_, hg, rfl⟩, F.args_dict_values_1 _, _, meets_dict_values (intKind prog w) a hsm, ⟨_, (hd _ hg).dictOf⟩, ?_⟩)
  generalize hs₂ : ({ s₁ with heap := s₁.heap.push { cls := .type "dict_values", data := .fields #[.ref a] } } : Shared) = s₂
  have g₂ : Go0 s₁ s₂ := hs₂ ▸ Go.push
  have hv : s₂.heap.IsValuesView s₁.heap.objs.size a := by rw [← hs₂]; exact ⟨_, Heap.get?_push_size _ rfl, rfl, rfl⟩
  refine wpAny_pyIter_values hv (hd _ (g₂.k0 _ _ hg)) ?_
  generalize hs₃ : ({ s₂ with heap := s₂.heap.push { cls := .type "dict_valueiterator", data := .fields #[.ref a, .int 0 0, .int (zipv es kvs).length 0, .int m 0] } } : Shared) = s₃
  have g₃ : Go0 s₂ s₃ := hs₃ ▸ Go.push
  have hI : s₃.heap.IsValIter s₂.heap.objs.size a 0 (zipv es kvs).length m := by rw [← hs₃]; exact ⟨_, Heap.get?_push_size _ rfl, rfl, rfl⟩
  have no : s₂.heap.get? s₂.heap.objs.size = none := fresh_size _
  have hne : a ≠ s₂.heap.objs.size := fun q => by have := g₂.k0 _ _ hg; rw [q, no] at this; cases this
  have it := Itr.ofWalks (t := t) (S := Shut S₀ Wt env ω s₃) (xs := kvs.map (·.2)) (D := fun s => VRow (Shut S₀ Wt env ω s₃) s.heap (zipv es kvs) kvs)
      (Walks.dictValues (prog := prog) (w := w) (knd := intKind prog w) (A := A) x.room.handled s₂.heap.objs.size a hne (zipv es kvs) m) (by simp [hr.zip.len])
      (fun b hb' => by
        simp only [List.mem_cons, List.not_mem_nil, or_false] at hb'
        rcases hb' with rfl | rfl
        · obtain ⟨o, e, _⟩ := hI
          exact Shut.not (fun q => by obtain ⟨o, e⟩ := ((x.keep g).keep g₂).bd q; rw [no] at e; cases e) e
        · exact Shut.not hS (g₃.k0 _ _ (g₂.k0 _ _ hg)))
      (fun i h st b hb' => by
        simp only [List.mem_cons, List.not_mem_nil, or_false] at hb'
        subst hb'
        obtain ⟨o, ho, hc, _⟩ := st.1
        exact ⟨o, ho, notCont hc (by decide)⟩)
      (fun i s v Q E st hq => by
        obtain ⟨o, ho, hc, _⟩ := st.1
        exact letGo_other ho hc (by decide) hq)
      (fun s s' d g => ⟨d.keys, d.reps.go g⟩) (fun s s' d g nc => ⟨d.keys, d.reps.gw g nc⟩)
      (fun i v d s hP hd hD => by
        obtain ⟨k, hk⟩ := hP
        exact hD.reps.2 i v d (by rw [List.getElem?_map, hk]; rfl) hd)
  refine hQ _ _ _ _ _ ((g.tr g₂).tr g₃) it (Shut.begun (fun b hb' => ?_) fun b hb' => let ⟨o, e, _⟩ := hI; ⟨o, by simp only [List.mem_cons, List.not_mem_nil, or_false] at hb'; exact hb' ▸ e⟩) ⟨⟨hI, hd _ (g₃.k0 _ _ (g₂.k0 _ _ hg))⟩, ⟨hr.zip.keys, Shut.reps hr.zip.reps (g₂.tr g₃)⟩⟩
  simp only [List.mem_cons, List.not_mem_nil, or_false] at hb'
  subst hb'
  cases e : s.heap.get? s₂.heap.objs.size with
  | none => rfl
  | some o => have := (g.tr g₂).k0 _ _ e; rw [no] at this; cases this

theorem Itr.items {ts : List Expr} {k : Nat} {tp : Pos} {S : ASet} {kvs : List (Int × PyData)} {vs : List (Int × Value)} {it d : Addr} {m : Nat} (hh : A.handled = none) (hdi : d ≠ it) (hi : ¬ S it) (hd : ¬ S d) :
    Itr prog w A (.Tuple ts k tp) S it (kvs.map fun p => .tuple [.int p.1, p.2]) (fun b => b = it) (fun i s => ((∃ ok ov, IsItemIter s.heap it d i vs.length m ok ov) ∧ s.heap.DictAt (intKind prog w) d vs m) ∧ VRow S s.heap vs kvs) where
  frame := fun i s s' st g => ⟨⟨let ⟨a, b, q⟩ := st.1.1; ⟨a, b, g.kp _ _ hi q⟩, st.1.2.at' fun o q => g.kp _ o hd q⟩, ⟨st.2.keys, st.2.reps.go g⟩⟩
  nc := fun i s b o st hb' q hc => by
    subst hb'
    obtain ⟨ok, ov, q'⟩ := st.1.1
    rw [q'] at q; cases q
    exact notCont rfl (by decide) hc
  item := fun i s dd Q E st hdd hQ => by
    obtain ⟨⟨⟨ok, ov, qi⟩, qd⟩, hr⟩ := st
    rw [List.getElem?_map] at hdd
    obtain ⟨kv, hkv⟩ : ∃ kv, kvs[i]? = some kv := by
      cases q : kvs[i]? with
      | none => rw [q] at hdd; cases hdd
      | some kv => exact ⟨kv, rfl⟩
    rw [hkv] at hdd
    cases hdd
    obtain ⟨v, hv, rv⟩ := hr.at (k := kv.1) (d := kv.2) hkv
    refine wpAny_pyNext_items_item qi qd hv fun key h' hkey ho hT hsz hk => ?_
    have hTi : s.heap.objs.size ≠ it := Nat.ne_of_gt (Heap.lt_size qi)
    refine wpAny_letOwnedTupleGo_items (s := { s with heap := h' }) ho fun h₂ hi₂ hs₂ => ?_
    have kp : ∀ b o, ¬ b = it → s.heap.get? b = some o → h₂.get? b = some o := fun b o hb' q => (hs₂.2 b hb').trans (hk b o hb' q)
    have gw : Gw (fun b => b = it) s { s with heap := h₂, toks := s.toks } := Gw.heap kp
    have nc : ∀ b o, b = it → s.heap.get? b = some o → ¬ IsCont o := fun b o hb' q hc => by
      subst hb'
      rw [qi] at q; cases q
      exact notCont rfl (by decide) hc
    have hr₂ : VRow S h₂ vs kvs := ⟨hr.keys, hr.reps.gw gw nc⟩
    refine hQ _ _ (gw.go fun b o hb' _ => ⟨_, hb' ▸ hi₂⟩) ⟨⟨⟨_, _, hi₂⟩, qd.at' fun o q => kp _ o hdi q⟩, hr₂⟩ fun T hT' hTb => ?_
    obtain ⟨t, rfl⟩ := Value.isInt_shape hkey
    obtain ⟨v', hv', rv'⟩ := hr₂.at (k := kv.1) (d := kv.2) hkv
    rw [hv] at hv'; cases hv'
    refine .tupleIs (vs := [.int kv.1 t, v]) (n := 0) (fun q => ?_) ((hs₂.2 _ hTi).trans hT) (.cons (.int _ _) (.cons (rv'.weak hT') .nil))
    obtain ⟨o, q'⟩ := hTb _ q
    rw [fresh_size] at q'; cases q'
  done := fun s Q E st hQ => by
    obtain ⟨⟨⟨ok, ov, qi⟩, qd⟩, hr⟩ := st
    have hlen : (kvs.map fun p => PyData.tuple [.int p.1, p.2]).length = vs.length := by simp [hr.len]
    refine wpAny_pyNext_items_end hh qi qd (by simp [hr.len]) fun h' hk => hQ _ (Gw.heap (tk := s.toks) fun b o hb' q => hk b o hb' q)
  self := fun i s Q E st h => by
    obtain ⟨⟨⟨ok, ov, qi⟩, _⟩, _⟩ := st
    have hT : s.TypeIs (.ref it) "dict_itemiterator" := ⟨_, qi, rfl⟩
    refine wpAny_pyIter_slot hT F.slot_dict_itemiterator_iter (wpAny_call_entry F.slot_dict_itemiterator_iter hT entry_itemiter_iter ?_ (F.args_dict_itemiterator_iter_1 _))
    show wpAny _ _ (ret (.ref it)) _ _ s
    exact wpAny_pure ⟨_, rfl, "dict_itemiterator", _, hT, F.slot_dict_itemiterator_next.lookup, h⟩

theorem EI.items {ts : List Expr} {k : Nat} {tp : Pos} {o : Expr} {apos pos : Pos} {kvs : List (Int × PyData)} (h : EV prog w hb n A env ρ ω o (dictD kvs)) (hbase : attributeBase o "items" env (eval o env) = eval o env := by exact base_plain rfl) (hline : (apos.endLine == pos.line) = true := by rfl) :
    EI prog w hb n A env ρ ω (.Tuple ts k tp) (.Call (.Attribute o "items" apos) [] [] pos) (kvs.map fun p => .tuple [.int p.1, p.2]) := .mk fun s₀ S₀ Wt s Q E x hQ => by
  refine wpAny_Call_method (T := "dict") (id := "dict.items") hbase rfl hline F.plainAttrs_dict F.slot_dict_items F.type_dict_items (h.run s₀ S₀ Wt s _ E x fun v s₁ g r => ?_)
  obtain ⟨a, es, m, rfl, hS, hsm, hg, hr⟩ := r.dictOf
  have hd : ∀ h' : Heap, h'.get? a = some { cls := .type "dict", data := .dict es.toArray m } → h'.DictAt (intKind prog w) a (zipv es kvs) m := fun h' e => hr.dictAt (S := Sx S₀ Wt env ω) (h := s₁.heap) hg |> fun q => q.at' fun o e' => by rw [hg] at e'; cases e'; exact e
  refine ⟨⟨_, hg, rfl⟩, fun a' e => by cases e; exact ⟨_, hg, rfl⟩, ?_⟩
  refine method_meetsIn F.slot_dict_items F.entry_dict_items rfl (PySem.evalArgs_none ⟨rfl, ⟨_, hg, rfl⟩, F.args_dict_items_1 _, _, meets_dict_items (intKind prog w) a hsm, ⟨_, (hd _ hg).dictOf⟩, ?_⟩)
  generalize hs₂ : ({ s₁ with heap := s₁.heap.push { cls := .type "dict_items", data := .fields #[.ref a] } } : Shared) = s₂
  have g₂ : Go0 s₁ s₂ := hs₂ ▸ Go.push
  have hv : s₂.heap.IsItemsView s₁.heap.objs.size a := by rw [← hs₂]; exact ⟨_, Heap.get?_push_size _ rfl, rfl, rfl⟩
  refine wpAny_pyIter_items hv (hd _ (g₂.k0 _ _ hg)) ?_
  generalize hs₃ : ({ s₂ with heap := s₂.heap.push { cls := .type "dict_itemiterator", data := .fields #[.none, .bool false, .ref a, .int 0 0, .int (zipv es kvs).length 0, .int m 0, .none, .none] } } : Shared) = s₃
  have g₃ : Go0 s₂ s₃ := hs₃ ▸ Go.push
  have hI : IsItemIter s₃.heap s₂.heap.objs.size a 0 (zipv es kvs).length m .none .none := by rw [← hs₃]; exact Heap.get?_push_size _ rfl
  have no : s₂.heap.get? s₂.heap.objs.size = none := fresh_size _
  have hne : a ≠ s₂.heap.objs.size := fun q => by have := g₂.k0 _ _ hg; rw [q, no] at this; cases this
  have it := Itr.items (prog := prog) (w := w) (A := A) (ts := ts) (k := k) (tp := tp) (S := Shut S₀ Wt env ω s₃) (kvs := kvs) (vs := zipv es kvs) (it := s₂.heap.objs.size) (d := a) (m := m) x.room.handled hne
    (Shut.not (fun q => by obtain ⟨o, e⟩ := ((x.keep g).keep g₂).bd q; rw [no] at e; cases e) hI) (Shut.not hS (g₃.k0 _ _ (g₂.k0 _ _ hg)))
  refine hQ _ _ _ _ _ ((g.tr g₂).tr g₃) it (Shut.begun (fun b hb' => ?_) fun b hb' => ⟨_, hb' ▸ hI⟩) ⟨⟨⟨_, _, hI⟩, hd _ (g₃.k0 _ _ (g₂.k0 _ _ hg))⟩, ⟨hr.zip.keys, Shut.reps hr.zip.reps (g₂.tr g₃)⟩⟩
  subst hb'
  cases e : s.heap.get? s₂.heap.objs.size with
  | none => rfl
  | some o => have := (g.tr g₂).k0 _ _ e; rw [no] at this; cases this
end
end Mine

namespace Mine
open PySem PySem.Calls PyProof.Rows

/-- the cells that a comprehension takes along -/
noncomputable def clOf (cells : List (Str × Addr)) : List (Str × NameKind) → List (Str × Addr) → List (Str × Addr)
  | [], acc => acc
  | (n, k) :: r, acc => if k == .free then clOf cells r ((n, (cells.lookup n).getD 0) :: acc) else clOf cells r acc

theorem clOf_for (env : Env) (f : Str × NameKind → List (Str × Addr) → Sem (ForInStep (List (Str × Addr)))) (hf : ∀ n k cs, f (n, k) cs = if k == .free then (do let a ← cellOf env n; pure (.yield ((n, a) :: cs))) else pure (.yield cs)) :
    ∀ (names : List (Str × NameKind)) (acc : List (Str × Addr)), (∀ n, (n, NameKind.free) ∈ names → (env.cells.lookup n).isSome = true) → forIn names acc f = pure (clOf env.cells names acc)
  | [], acc, _ => by rw [List.forIn_nil]; rfl
  | (n, k) :: r, acc, h => by
    rw [List.forIn_cons, hf]
    have hr := fun acc => clOf_for env f hf r acc fun n hn => h n (.tail _ hn)
    unfold clOf
    cases hk : k == .free with
    | true =>
      have hkf : k = .free := by simpa using hk
      subst hkf
      obtain ⟨c, hc⟩ := Option.isSome_iff_exists.mp (h n (.head _))
      simp only [if_true]
      rw [show cellOf env n = pure c by unfold cellOf; rw [hc]]
      simp only [pure_bind]
      rw [hr, hc]; rfl
    | false => simp only [Bool.false_eq_true, if_false, pure_bind]; exact hr acc
theorem closureFor_is {scope : Scope} {env : Env} (h : ∀ n, (n, NameKind.free) ∈ scope.names → (env.cells.lookup n).isSome = true) : closureFor scope env = pure (clOf env.cells scope.names []) := by
  simp only [closureFor]
  rw [clOf_for env _ (fun n k cs => by cases hk : k == .free <;> simp) scope.names [] h]
  rfl
theorem clOf_mem {cells : List (Str × Addr)} : ∀ {names : List (Str × NameKind)} {acc : List (Str × Addr)} {n : Str} {c : Addr}, (n, c) ∈ clOf cells names acc → (n, c) ∈ acc ∨ ((n, NameKind.free) ∈ names ∧ c = (cells.lookup n).getD 0)
  | [], acc, n, c, h => .inl h
  | (m, k) :: r, acc, n, c, h => by
    unfold clOf at h
    cases hk : k == .free with
    | true =>
      rw [hk] at h
      have hkf : k = .free := by simpa using hk
      subst hkf
      rcases clOf_mem h with h | ⟨h, e⟩
      · rcases List.mem_cons.mp h with e | h
        · cases e; exact .inr ⟨.head _, rfl⟩
        · exact .inl h
      · exact .inr ⟨.tail _ h, e⟩
    | false =>
      rw [hk] at h
      rcases clOf_mem h with h | ⟨h, e⟩
      · exact .inl h
      · exact .inr ⟨.tail _ h, e⟩
theorem clOf_acc {cells : List (Str × Addr)} : ∀ {names : List (Str × NameKind)} {acc : List (Str × Addr)} {x : Str × Addr}, x ∈ acc → x ∈ clOf cells names acc
  | [], _, _, h => h
  | (m, k) :: r, acc, x, h => by
    unfold clOf
    split
    · exact clOf_acc (.tail _ h)
    · exact clOf_acc h
theorem clOf_has {cells : List (Str × Addr)} : ∀ {names : List (Str × NameKind)} {acc : List (Str × Addr)} {n : Str}, (n, NameKind.free) ∈ names → (n, (cells.lookup n).getD 0) ∈ clOf cells names acc
  | (m, k) :: r, acc, n, h => by
    unfold clOf
    rcases List.mem_cons.mp h with e | h
    · cases e; rw [if_pos (by rfl)]; exact clOf_acc (.head _)
    · split
      · exact clOf_has h
      · exact clOf_has h
theorem lookup_of_mem {α : Type} {l : List (Str × α)} {n : Str} {a : α} (h : (n, a) ∈ l) (hu : ∀ b, (n, b) ∈ l → b = a) : l.lookup n = some a := by
  induction l with
  | nil => cases h
  | cons x r ih =>
    obtain ⟨m, b⟩ := x
    rw [List.lookup_cons]
    cases hb' : n == m with
    | true => rw [show m = n from (beq_iff_eq.mp hb').symm] at hu; rw [hu b (.head _)]
    | false =>
      rcases List.mem_cons.mp h with e | h
      · cases e; simp at hb'
      · exact ih h fun b hb => hu b (.tail _ hb)
theorem clOf_lookup {cells : List (Str × Addr)} {names : List (Str × NameKind)} {n : Str} {c : Addr} (h : (n, NameKind.free) ∈ names) (hc : cells.lookup n = some c) : (clOf cells names []).lookup n = some c :=
  lookup_of_mem (by have := clOf_has (cells := cells) (acc := []) h; rw [hc] at this; exact this) fun b hb => by
    rcases clOf_mem hb with h | ⟨_, e⟩
    · cases h
    · rw [e, hc]; rfl

theorem relabel_free {scope : Scope} {env : Env} {y : Str} (h : scope.names.lookup y = some .free) : (relabel scope env).names.lookup y = some .cell ∨ (relabel scope env).names.lookup y = some .free := by
  unfold relabel
  simp only
  generalize scope.names = names at h
  induction names with
  | nil => cases h
  | cons x r ih =>
    obtain ⟨m, k⟩ := x
    rw [List.lookup_cons] at h
    rw [List.map_cons]
    cases hb' : y == m with
    | true =>
      rw [hb'] at h; cases h
      dsimp only
      split
      · left; rw [List.lookup_cons, hb']
      · right; rw [List.lookup_cons, hb']
    | false =>
      rw [hb'] at h
      have := ih h
      dsimp only
      split <;> (rw [List.lookup_cons, hb']; exact this)

/-- what a comprehension sees of the names around it -/
inductive Vis (scope : Scope) (env : Env) (ρ : Rho) : Rho → Prop
  | nil : Vis scope env ρ []
  | cons {y : Str} {d : PyData} {ρc : Rho} : ρ.lookup y = some d → scope.names.lookup y = some .free → (env.kindOf y = some .cell ∨ env.kindOf y = some .free) → Vis scope env ρ ρc → Vis scope env ρ ((y, d) :: ρc)
theorem Vis.at {scope : Scope} {env : Env} {ρ ρc : Rho} (v : Vis scope env ρ ρc) : ∀ {y : Str} {d : PyData}, ρc.lookup y = some d → ρ.lookup y = some d ∧ scope.names.lookup y = some .free ∧ (env.kindOf y = some .cell ∨ env.kindOf y = some .free) := by
  induction v with
  | nil => intro y d h; cases h
  | cons h1 h2 h3 _ ih =>
    intro y d h
    rcases lookup_cons_cases h with ⟨rfl, rfl⟩ | ⟨_, h⟩
    · exact ⟨h1, h2, h3⟩
    · exact ih h

/-- the list that a comprehension fills -/
noncomputable def AccAt (S : ASet) (s : Shared) (D : Addr) (zs : List PyData) : Prop := ∃ vs : List Value, s.heap.PlainList D vs.toArray ∧ Reps S s.heap vs zs

/-- one turn of a comprehension, as a tree -/
noncomputable def turn1 (ip : Pos) (t : Expr) (ifs : List Expr) (env : Env) (it : Value) (emit : Sem Fin → Sem Fin) (c : Code) : Sem Fin := do
  standAt ip
  match ← pyNext it with
  | none => pure (.done .next)
  | some v =>
    letOwnedTupleGo t it v
    assign t env v
    let mut ok := true
    for c in ifs do
      if ok then ok ← isTrue c env (eval c env)
    if ok then emit (again c) else again c
theorem turn_one (elt t iter : Expr) (ifs : List Expr) (scope : Scope) (pos : Pos) (it acc : Value) (env : Env) :
    compTurn (.ListComp elt [⟨t, iter, ifs, 0⟩] scope pos) 0 it acc env = turn1 iter.pos t ifs env it (fun k => do (do let _ ← call (.builtin "list.append") [acc, ← eval elt env]); k) (.compLoop (.ListComp elt [⟨t, iter, ifs, 0⟩] scope pos) 0 it acc env) := by rfl
theorem turn_two (elt t iter t' iter' : Expr) (ifs ifs' : List Expr) (scope : Scope) (pos : Pos) (it acc : Value) (env : Env) :
    compTurn (.ListComp elt [⟨t, iter, ifs, 0⟩, ⟨t', iter', ifs', 0⟩] scope pos) 1 it acc env = turn1 iter'.pos t' ifs' env it (fun k => do (do let _ ← call (.builtin "list.append") [acc, ← eval elt env]); k) (.compLoop (.ListComp elt [⟨t, iter, ifs, 0⟩, ⟨t', iter', ifs', 0⟩] scope pos) 1 it acc env) := by rfl
theorem turn_outer (elt t iter t' iter' : Expr) (ifs ifs' : List Expr) (scope : Scope) (pos : Pos) (it acc : Value) (env : Env) :
    compTurn (.ListComp elt [⟨t, iter, ifs, 0⟩, ⟨t', iter', ifs', 0⟩] scope pos) 0 it acc env = turn1 iter.pos t ifs env it (fun k => do
        let x ← eval iter' env
        standAt iter'.pos
        let x ← foldedSetIterable iter' env x
        let _ ← runOwn (.compStart (.ListComp elt [⟨t, iter, ifs, 0⟩, ⟨t', iter', ifs', 0⟩] scope pos) 1 (← holding [x] (pyIter x)) acc env) env
        k) (.compLoop (.ListComp elt [⟨t, iter, ifs, 0⟩, ⟨t', iter', ifs', 0⟩] scope pos) 0 it acc env) := by rfl
end Mine

namespace Mine
open PySem PySem.Calls PyProof.Rows

section
variable {prog : Program} {w : World} {A : Around} {s : Shared}

theorem comp_step {R : Result → Shared → Prop} {elt : Expr} {gens : List Comprehension} {scope : Scope} {pos : Pos} {d : Nat} {it acc : Value} {ip : Pos} {t : Expr} {ifs : List Expr} {env : Env} {emit : Sem Fin → Sem Fin}
    (hT : compTurn (.ListComp elt gens scope pos) d it acc env = turn1 ip t ifs env it emit (.compLoop (.ListComp elt gens scope pos) d it acc env))
    (h : wpAny (model prog w) A (pyNext it) (fun r s₁ => match r with
      | none => R (.ok .next) s₁
      | some v => wpAny (model prog w) A (letOwnedTupleGo t it v) (fun _ s₁' => wpAny (model prog w) A (assign t env v) (fun _ s₂ =>
          wpAny (model prog w) A (forIn ifs true fun c r => if r = true then do let ok ← isTrue c env (eval c env); pure (ForInStep.yield ok) else pure (ForInStep.yield r)) (fun ok s₃ =>
            if ok = true then wpAny (model prog w) A (emit (again (.compLoop (.ListComp elt gens scope pos) d it acc env))) (fun fin s' => match fin with | .done f => R (.ok f) s' | .again c' => c'.quiet = true ∧ codeAny (model prog w) A c' R s') (notedBy (model prog w) A env fun e s' => R (.error e) s') s₃
            else codeAny (model prog w) A (.compLoop (.ListComp elt gens scope pos) d it acc env) R s₃) (notedBy (model prog w) A env fun e s' => R (.error e) s') s₂) (notedBy (model prog w) A env fun e s' => R (.error e) s') s₁') (notedBy (model prog w) A env fun e s' => R (.error e) s') s₁) (notedBy (model prog w) A env fun e s' => R (.error e) s') s) :
    codeAny (model prog w) A (.compLoop (.ListComp elt gens scope pos) d it acc env) R s := by
  refine codeAny_of_tree ?_
  show wpAny _ A ((compTurn (.ListComp elt gens scope pos) d it acc env).onRaise (fun x => do noteFrame x env; theTreesLotGoes x)) _ _ s
  refine wpAny_noted ?_
  rw [hT]
  refine wpAny_bind (wpAny_standAt (wpAny_bind (wpAny_mono h (fun r s₁ h₁ => ?_) fun _ _ h' => h')))
  cases r with
  | none => exact wpAny_pure h₁
  | some v =>
    refine wpAny_bind (wpAny_mono h₁ (fun _ s₁' h₁' => ?_) fun _ _ h' => h')
    refine wpAny_bind (wpAny_mono h₁' (fun _ s₂ h₂ => wpAny_bind (wpAny_mono h₂ (fun ok s₃ h₃ => ?_) fun _ _ h' => h')) fun _ _ h' => h')
    cases ok with
    | false => exact wpAny_pure ⟨rfl, h₃⟩
    | true => exact h₃
end

section
variable {prog : Program} {w : World} {hb : Heap} {n : Nat} {A : Around} {env cenv : Env} {ρ ρ' : Rho} {ω ω' : Omega} {s₀ sr s s' s'' : Shared} {S₀ Wt : ASet} {D : Addr} {zs : List PyData}

/-- the state of a comprehension under way -/
structure CLx (hb : Heap) (n : Nat) (A : Around) (cenv : Env) (s₀ : Shared) (S₀ Wt : ASet) (sr : Shared) (D : Addr) (ρ : Rho) (zs : List PyData) (s : Shared) : Prop where
  cx : Cx hb n A cenv s₀ S₀ Wt ρ [] s
  acc : AccAt (Sx S₀ Wt cenv []) s D zs
  go : Go (fun b => b = D ∨ b = cenv.locals) sr s
  wtD : Wt D
  dc : D ≠ cenv.locals
  dcell : ∀ y, (y, D) ∉ cenv.cells

theorem AccAt.cont {S : ASet} (a : AccAt S s D zs) : ∃ o, s.heap.get? D = some o ∧ IsCont o := by
  obtain ⟨vs, ⟨m, e⟩, _⟩ := a; exact ⟨_, e, .inl rfl⟩
theorem AccAt.gw {S W : ASet} (a : AccAt S s D zs) (g : Gw W s s') (hW : ∀ b o, W b → s.heap.get? b = some o → ¬ IsCont o) : AccAt S s' D zs := by
  obtain ⟨o, ho, hc⟩ := a.cont
  obtain ⟨vs, hp, r⟩ := a
  exact ⟨vs, hp.at fun o' e => g.kp _ _ (fun q => hW _ _ q ho hc) e, r.gw g hW⟩
theorem AccAt.go {S T : ASet} (a : AccAt S s D zs) (g : Go T s s') (hT : ∀ b, T b → S b) (hD : ¬ T D) : AccAt S s' D zs := by
  obtain ⟨vs, hp, r⟩ := a
  exact ⟨vs, hp.at fun o' e => g.kp _ _ hD e, r.go (g.mono hT)⟩

theorem CLx.turn {W : ASet} (x : CLx hb n A cenv s₀ S₀ Wt sr D ρ zs s) (g : Gw W s s') (p : Apart s₀ cenv Wt W) (hr : ∀ b, W b → sr.heap.get? b = none) (hW : ∀ b o, W b → s.heap.get? b = some o → ¬ IsCont o) : CLx hb n A cenv s₀ S₀ Wt sr D ρ zs s' :=
  have nw : ∀ b o, sr.heap.get? b = some o → ¬ W b := fun b o e q => by rw [hr b q] at e; cases e
  ⟨x.cx.turn g p hW, x.acc.gw g hW, ⟨fun b o hb' e => g.kp b o (nw b o e) (x.go.kp b o hb' e), fun b o e => let ⟨o', e'⟩ := x.go.ex b o e; ⟨o', g.kp b o' (nw b o e) e'⟩,
    fun i gs e => g.gens i gs (x.go.gens i gs e), fun q => g.bare (x.go.bare q), g.drawn.trans x.go.drawn, g.os.trans x.go.os⟩, x.wtD, x.dc, x.dcell⟩
theorem CLx.keep (x : CLx hb n A cenv s₀ S₀ Wt sr D ρ zs s) (g : Go0 s s') : CLx hb n A cenv s₀ S₀ Wt sr D ρ zs s' :=
  ⟨x.cx.keep g, x.acc.go g (fun _ q => q.elim) (fun q => q), x.go.tr (g.mono fun _ q => q.elim), x.wtD, x.dc, x.dcell⟩
theorem CLx.sub (x : CLx hb n A cenv s₀ S₀ Wt sr D ρ zs s) (h : ∀ y d, ρ'.lookup y = some d → ρ.lookup y = some d) : CLx hb n A cenv s₀ S₀ Wt sr D ρ' zs s :=
  ⟨x.cx.sub h, x.acc, x.go, x.wtD, x.dc, x.dcell⟩
/-- a target is bound: only locals turn -/
theorem CLx.bind (x : CLx hb n A cenv s₀ S₀ Wt sr D ρ zs s) (o : NextOk hb n A cenv s₀ S₀ Wt [] s ρ' [] s') (hl : Go (fun b => b = cenv.locals) s s') : CLx hb n A cenv s₀ S₀ Wt sr D ρ' zs s' :=
  ⟨o.cx, x.acc.go o.go Mx.sx (by
    rintro (q | ⟨y, q⟩ | ⟨p, hp, _⟩)
    · exact x.dc q
    · exact x.dcell y q
    · cases hp), x.go.tr (hl.mono fun _ q => .inr q), x.wtD, x.dc, x.dcell⟩

theorem CLx.append (x : CLx hb n A cenv s₀ S₀ Wt sr D ρ zs s) {v : Value} {d : PyData} {Q : Value → Shared → Prop} {E : Value → Shared → Prop} (r : Rep (Sx S₀ Wt cenv []) s.heap v d) (hz : zs.length ≤ 1000000)
    (h : ∀ s', CLx hb n A cenv s₀ S₀ Wt sr D ρ (zs ++ [d]) s' → Go (fun b => b = D) s s' → Q .none s') : wpAny (model prog w) A (call (.builtin "list.append") [.ref D, v]) Q E s := by
  obtain ⟨vs, hp, hr⟩ := x.acc
  refine wpAny_list_append_plain hp (fun h' hp' hs' => ?_) (by
    have := hr.1
    simp only [List.size_toArray, this]; exact Nat.le_trans hz (by decide))
  obtain ⟨m', e'⟩ := hp'
  have g : Go (fun b => b = D) s { s with heap := h', toks := s.toks } := Go.same rfl hs' e'
  have gS : Go (Sx S₀ Wt cenv []) s { s with heap := h', toks := s.toks } := g.mono fun b q => .inr (.inl (q ▸ x.wtD))
  have kp : ∀ b o, b ≠ D → s.heap.get? b = some o → h'.get? b = some o := fun b o hb' e => (hs'.2 b hb').trans e
  have Dn : s₀.heap.get? D = none := (x.cx.wt D x.wtD).2
  have nD : ∀ b o, s₀.heap.get? b = some o → b ≠ D := fun b o e q => by rw [q, Dn] at e; cases e
  refine h _ ⟨⟨x.cx.base, ⟨fun b o _ e => kp b o (nD b o e) (x.cx.go.k0 b o e), fun b o e => ⟨o, kp b o (nD b o e) (x.cx.go.k0 b o e)⟩, x.cx.go.gens, x.cx.go.bare, x.cx.go.drawn, x.cx.go.os⟩, x.cx.room, x.cx.kind, x.cx.glob, x.cx.blt, x.cx.s0,
    fun b q => ⟨let ⟨o, e⟩ := (x.cx.wt b q).1; g.ex b o e, (x.cx.wt b q).2⟩, let ⟨m, hn⟩ := x.cx.ns; ⟨m, hn.sameBut hs' (Ne.symm x.dc)⟩, x.cx.lnew,
    fun y c hc => ⟨let ⟨u, hu⟩ := (x.cx.cell y c hc).1; ⟨u, hu.sameBut hs' fun q => x.dcell y (q ▸ hc)⟩, (x.cx.cell y c hc).2⟩, x.cx.apart, fun y dd e => ?_, (fun p hp => nomatch hp), x.cx.owna⟩,
    ⟨vs ++ [v], ⟨m', by simpa using e'⟩, (hr.snoc r).go gS⟩, x.go.tr (g.mono fun _ q => .inl q), x.wtD, x.dc, x.dcell⟩ g
  obtain ⟨u, at_, ru⟩ := x.cx.loc y dd e
  refine ⟨u, ?_, ru.go gS⟩
  rcases at_ with ⟨hk, m, hn, hm⟩ | ⟨hk, c, hl, hv⟩
  · exact .inl ⟨hk, m, hn.sameBut hs' (Ne.symm x.dc), hm⟩
  · exact .inr ⟨hk, c, hl, hv.sameBut hs' fun q => x.dcell y (q ▸ mem_of_lookup hl)⟩
end

section
variable (prog : Program) (w : World) (hb : Heap) (n : Nat) (A : Around) (cenv : Env)
/-- the tests of a turn -/
structure TS (ρ : Rho) (ifs : List Expr) (b : Bool) : Prop where
  run : ∀ (s₀ : Shared) (S₀ Wt : ASet) (s : Shared) (Q : Bool → Shared → Prop) (E : Value → Shared → Prop), Cx hb n A cenv s₀ S₀ Wt ρ [] s → (∀ s', Go0 s s' → Q b s') →
      wpAny (model prog w) A (forIn ifs true fun c r => if r = true then do let ok ← isTrue c cenv (eval c cenv); pure (ForInStep.yield ok) else pure (ForInStep.yield r)) Q E s
/-- a target of a comprehension -/
structure AC (ρ : Rho) (t : Expr) (d : PyData) (ρ' : Rho) : Prop where
  run : ∀ (s₀ : Shared) (S₀ Wt : ASet) (s : Shared) (v : Value) (Q : Unit → Shared → Prop) (E : Value → Shared → Prop), Cx hb n A cenv s₀ S₀ Wt ρ [] s → Rep (Sx S₀ Wt cenv []) s.heap v d →
      (∀ s', NextOk hb n A cenv s₀ S₀ Wt [] s ρ' [] s' → Go (fun b => b = cenv.locals) s s' → Q () s') → wpAny (model prog w) A (assign t cenv v) Q E s
/-- the rest of a comprehension's loop: xs are still to come, they give ys -/
structure CL (e : Expr) (d : Nat) (t : Expr) (ρ : Rho) (xs ys : List PyData) : Prop where
  run : ∀ (s₀ : Shared) (S₀ Wt : ASet) (sr s : Shared) (S : ASet) (I D : Addr) (all : List PyData) (W : ASet) (St : Nat → Shared → Prop) (k : Nat) (zs : List PyData) (R : Result → Shared → Prop),
      Itr prog w A t S I all W St → Apart s₀ cenv Wt W → (∀ b, W b → sr.heap.get? b = none) → CLx hb n A cenv s₀ S₀ Wt sr D ρ zs s → (∀ b, Sx S₀ Wt cenv [] b → S b) → (∀ b, s.heap.get? b = none → S b) → St k s → k ≤ all.length → all.drop k = xs → zs.length + ys.length ≤ 1000000 →
      (∀ s', CLx hb n A cenv s₀ S₀ Wt sr D ρ (zs ++ ys) s' → R (.ok .next) s') → codeAny (model prog w) A (.compLoop e d (.ref I) (.ref D) cenv) R s
end

section
variable {prog : Program} {w : World} {hb : Heap} {n : Nat} {A : Around} {env cenv : Env} {ρ ρ' : Rho} {ω ω' : Omega} {s₀ sr s s' s'' : Shared} {S₀ Wt : ASet} {D : Addr} {zs : List PyData}

theorem TS.nil : TS prog w hb n A cenv ρ [] true := .mk fun s₀ S₀ Wt s Q E x h => wpAny_tests_nil (h s .refl)
theorem TS.one {c : Expr} {b : Bool} (hc : EB prog w hb n A cenv ρ [] c b) : TS prog w hb n A cenv ρ [c] b := .mk fun s₀ S₀ Wt s Q E x h => wpAny_tests_one (hc.run s₀ S₀ Wt s Q E x h)

theorem store_local {M : Model} {E : Value → Shared → Prop} {y : Str} {v : Value} {d : PyData} {Q : Unit → Shared → Prop} (x : Cx hb n A cenv s₀ S₀ Wt ρ [] s) (hy : cenv.kindOf y = some .local) (r : Rep (Sx S₀ Wt cenv []) s.heap v d)
    (h : ∀ s', NextOk hb n A cenv s₀ S₀ Wt [] s ((y, d) :: ρ) [] s' → Go (fun b => b = cenv.locals) s s' → Q () s') : wpAny M A (storeName cenv y v) Q E s := by
  have hρ : ∀ z d', List.lookup z ((y, d) :: ρ) = some d' → (z = y ∧ Rep (Sx S₀ Wt cenv []) s.heap v d') ∨ (z ≠ y ∧ ρ.lookup z = some d') := fun z d' e => by
    rcases lookup_cons_cases e with ⟨h1, h2⟩ | h1
    · exact .inl ⟨h1, h2 ▸ r⟩
    · exact .inr h1
  obtain ⟨m, hn⟩ := x.ns
  refine wpAny_storeName_local hy hn (fun h' hn' hs => ?_) (by rw [x.kind]; rfl)
  have z := x.storeL (tk := s.toks + 1) hy hn hn' hs (fun p hp => nomatch hp) hρ
  obtain ⟨oL, _, _, eL, _⟩ := hn'
  exact h _ (.of z.2 z.1) (Go.same rfl hs eL)
theorem AC.name {y : Str} {p : Pos} {d : PyData} (hy : cenv.kindOf y = some .local) : AC prog w hb n A cenv ρ (.Name y p) d ((y, d) :: ρ) := .mk fun s₀ S₀ Wt s v Q E x r h => wpAny_assign_Name (store_local x hy r h)

structure ACs (prog : Program) (w : World) (hb : Heap) (n : Nat) (A : Around) (cenv : Env) (ρ : Rho) (ts : List Expr) (ds : List PyData) (ρ' : Rho) : Prop where
  len : (assignEach ts cenv).length = ds.length
  star : (assignEach ts cenv).findIdx? (·.1) = none
  go : ∀ (s₀ : Shared) (S₀ Wt : ASet) (s : Shared) (vs : List Value) (Q : Unit → Shared → Prop) (E : Value → Shared → Prop), Cx hb n A cenv s₀ S₀ Wt ρ [] s → Reps (Sx S₀ Wt cenv []) s.heap vs ds →
    (∀ s', NextOk hb n A cenv s₀ S₀ Wt [] s ρ' [] s' → Go (fun b => b = cenv.locals) s s' → Q () s') → wpAny (model prog w) A (assignInOrder ((assignEach ts cenv).map (·.2)) vs) Q E s
theorem ACs.nil : ACs prog w hb n A cenv ρ [] [] ρ := ⟨rfl, rfl, fun s₀ S₀ Wt s vs Q E x r h => assignInOrder_nil (h s (.refl x) .refl)⟩
theorem ACs.cons {y : Str} {p : Pos} {d : PyData} {es : List Expr} {ds : List PyData} (hy : cenv.kindOf y = some .local) (hr : ACs prog w hb n A cenv ((y, d) :: ρ) es ds ρ') : ACs prog w hb n A cenv ρ (.Name y p :: es) (d :: ds) ρ' := by
  refine ⟨?_, ?_, fun s₀ S₀ Wt s vs Q E x r h => ?_⟩
  · show (assignEach es cenv).length + 1 = ds.length + 1
    rw [hr.len]
  · show List.findIdx? _ ((false, assign (.Name y p) cenv) :: assignEach es cenv) = none
    rw [List.findIdx?_cons, hr.star]; rfl
  · match vs, r with
    | [], r => exact absurd r.1 (by simp)
    | v :: vs, r =>
      show wpAny _ A (assignInOrder (assign (.Name y p) cenv :: (assignEach es cenv).map (·.2)) (v :: vs)) Q E s
      refine assignInOrder_cons ((AC.name hy).run s₀ S₀ Wt s v _ E x r.head fun s₁ o₁ g₁ => ?_)
      exact hr.go s₀ S₀ Wt s₁ vs Q E o₁.cx (r.tail.go (o₁.go.mono Mx.sx)) fun s₂ o₂ g₂ => h s₂ (o₁.trans o₂) (g₁.tr g₂)
theorem AC.tupleT {ts : List Expr} {k : Nat} {pos : Pos} {ds : List PyData} (h : ACs prog w hb n A cenv ρ ts ds ρ') : AC prog w hb n A cenv ρ (.Tuple ts k pos) (.tuple ds) ρ' := .mk fun s₀ S₀ Wt s v Q E x r hQ => by
  obtain ⟨a, vs, m, rfl, _, hg, hr⟩ := r.tupleOf
  refine assign_Tuple_tuple x.room.handled (isTup_of hg) (by rw [h.len, ← hr.1]; simp) h.star fun h' he => ?_
  have g : Go0 s { s with heap := h' } := Go.heap0 (tk := s.toks) fun b o e => he b o (Nat.ne_of_lt (Heap.lt_size e)) e
  exact h.go s₀ S₀ Wt _ vs Q E (x.keep g) (hr.go0 g) fun s' o gl => hQ s' (o.after (g.mono fun _ q => q.elim) fun _ q => .inl q) ((g.mono fun _ q => q.elim).tr gl)

theorem CL.nil {elt : Expr} {gens : List Comprehension} {scope : Scope} {pos : Pos} {d : Nat} {t : Expr} {ip : Pos} {ifs : List Expr} {emit : Value → Sem Fin → Sem Fin}
    (hT : ∀ it acc, compTurn (.ListComp elt gens scope pos) d it acc cenv = turn1 ip t ifs cenv it (emit acc) (.compLoop (.ListComp elt gens scope pos) d it acc cenv)) : CL prog w hb n A cenv (.ListComp elt gens scope pos) d t ρ [] [] :=
  .mk fun s₀ S₀ Wt sr s S I D all W St k zs R it ap hr x hS hn st hk hd hz hR => by
  have hk' : k = all.length := by
    have := congrArg List.length hd
    simp at this; omega
  subst hk'
  refine comp_step (hT _ _) (wpAny_mono (it.done s _ _ st fun s' g => hR s' (by simpa using x.turn g ap hr (fun b o hb' e => it.nc _ _ b o st hb' e))) (fun r s₁ h₁ => ?_) fun _ _ e => e)
  cases r with
  | none => exact h₁
  | some v => exact h₁.elim

theorem comp_item {R : Result → Shared → Prop} {elt : Expr} {gens : List Comprehension} {scope : Scope} {pos : Pos} {d : Nat} {t : Expr} {ip : Pos} {ifs : List Expr} {emit : Value → Sem Fin → Sem Fin} {S : ASet} {I : Addr} {all : List PyData} {W : ASet} {St : Nat → Shared → Prop} {k : Nat} {dd : PyData} {acc : Value}
    (hT : ∀ it acc, compTurn (.ListComp elt gens scope pos) d it acc cenv = turn1 ip t ifs cenv it (emit acc) (.compLoop (.ListComp elt gens scope pos) d it acc cenv)) (it : Itr prog w A t S I all W St) (st : St k s) (hd : all[k]? = some dd)
    (h : ∀ v s₁, Go W s s₁ → St (k + 1) s₁ → (∀ T : ASet, (∀ b, T b → S b) → (∀ b, T b → ∃ o, s.heap.get? b = some o) → Rep T s₁.heap v dd) →
      wpAny (model prog w) A (assign t cenv v) (fun _ s₂ =>
          wpAny (model prog w) A (forIn ifs true fun c r => if r = true then do let ok ← isTrue c cenv (eval c cenv); pure (ForInStep.yield ok) else pure (ForInStep.yield r)) (fun ok s₃ =>
            if ok = true then wpAny (model prog w) A (emit acc (again (.compLoop (.ListComp elt gens scope pos) d (.ref I) acc cenv))) (fun fin s' => match fin with | .done f => R (.ok f) s' | .again c' => c'.quiet = true ∧ codeAny (model prog w) A c' R s') (notedBy (model prog w) A cenv fun e s' => R (.error e) s') s₃
            else codeAny (model prog w) A (.compLoop (.ListComp elt gens scope pos) d (.ref I) acc cenv) R s₃) (notedBy (model prog w) A cenv fun e s' => R (.error e) s') s₂) (notedBy (model prog w) A cenv fun e s' => R (.error e) s') s₁) :
    codeAny (model prog w) A (.compLoop (.ListComp elt gens scope pos) d (.ref I) acc cenv) R s := by
  refine comp_step (hT _ _) (wpAny_mono (it.item k s dd (fun v s₁ => wpAny (model prog w) A (assign t cenv v) (fun _ s₂ =>
          wpAny (model prog w) A (forIn ifs true fun c r => if r = true then do let ok ← isTrue c cenv (eval c cenv); pure (ForInStep.yield ok) else pure (ForInStep.yield r)) (fun ok s₃ =>
            if ok = true then wpAny (model prog w) A (emit acc (again (.compLoop (.ListComp elt gens scope pos) d (.ref I) acc cenv))) (fun fin s' => match fin with | .done f => R (.ok f) s' | .again c' => c'.quiet = true ∧ codeAny (model prog w) A c' R s') (notedBy (model prog w) A cenv fun e s' => R (.error e) s') s₃
            else codeAny (model prog w) A (.compLoop (.ListComp elt gens scope pos) d (.ref I) acc cenv) R s₃) (notedBy (model prog w) A cenv fun e s' => R (.error e) s') s₂) (notedBy (model prog w) A cenv fun e s' => R (.error e) s') s₁) _ st hd h) (fun r s₁ h₁ => ?_) fun _ _ e => e)
  cases r with
  | none => exact h₁.elim
  | some v => exact h₁

/-- the facts that carry over to the next turn -/
theorem turn_on {S : ASet} {I : Addr} {all : List PyData} {W : ASet} {St : Nat → Shared → Prop} {t : Expr} {k : Nat} {T : ASet} (it : Itr prog w A t S I all W St) (hn : ∀ b, s.heap.get? b = none → S b) (st : St k s) (g : Go T s s') (hT : ∀ b, T b → S b) : St k s' ∧ ∀ b, s'.heap.get? b = none → S b :=
  ⟨it.frame _ _ _ st (g.mono hT), fun b q => hn b (by
    cases e : s.heap.get? b with
    | none => rfl
    | some o => obtain ⟨o', e'⟩ := g.ex b o e; rw [q] at e'; cases e')⟩

theorem CL.skip {elt : Expr} {gens : List Comprehension} {scope : Scope} {pos : Pos} {d : Nat} {t : Expr} {ip : Pos} {ifs : List Expr} {emit : Value → Sem Fin → Sem Fin} {dd : PyData} {xs ys : List PyData}
    (hT : ∀ it acc, compTurn (.ListComp elt gens scope pos) d it acc cenv = turn1 ip t ifs cenv it (emit acc) (.compLoop (.ListComp elt gens scope pos) d it acc cenv)) (ha : AC prog w hb n A cenv ρ t dd ρ') (hs : ∀ y d, ρ.lookup y = some d → ρ'.lookup y = some d) (ht : TS prog w hb n A cenv ρ' ifs false)
    (hr : CL prog w hb n A cenv (.ListComp elt gens scope pos) d t ρ xs ys) : CL prog w hb n A cenv (.ListComp elt gens scope pos) d t ρ (dd :: xs) ys :=
  .mk fun s₀ S₀ Wt sr s S I D all W St k zs R it ap hr' x hS hn st hk hd hz hR => by
  obtain ⟨hd1, hd2, hk2⟩ := drop_cons hd
  refine comp_item hT it st hd1 fun v s₁ g₁ st₁ r₁ => ?_
  have x₁ := x.turn g₁.gw ap hr' (fun b o hb' e => it.nc _ _ b o st hb' e)
  refine ha.run s₀ S₀ Wt s₁ v _ _ x₁.cx (r₁ _ hS fun b q => x.cx.bd q) fun s₂ o₂ l₂ => ?_
  refine ht.run s₀ S₀ Wt s₂ _ _ o₂.cx fun s₃ g₃ => ?_
  rw [if_neg (by decide)]
  have hn₁ : ∀ b, s₁.heap.get? b = none → S b := fun b q => hn b (by
    cases e : s.heap.get? b with
    | none => rfl
    | some o => obtain ⟨o', e'⟩ := g₁.ex b o e; rw [q] at e'; cases e')
  have hL : S cenv.locals := hS _ (.inr (.inr (.inl rfl)))
  obtain ⟨st₃, hn₃⟩ := turn_on it hn₁ st₁ (l₂.tr (g₃.mono fun _ q => q.elim)) fun b q => q ▸ hL
  exact hr.run s₀ S₀ Wt sr s₃ S I D all W St (k + 1) zs R it ap hr' (((x₁.bind o₂ l₂).keep g₃).sub hs) hS hn₃ st₃ hk2 hd2 hz hR

theorem CL.cons {elt : Expr} {gens : List Comprehension} {scope : Scope} {pos : Pos} {d : Nat} {t : Expr} {ip : Pos} {ifs : List Expr} {dd y : PyData} {xs ys : List PyData}
    (hT : ∀ it acc, compTurn (.ListComp elt gens scope pos) d it acc cenv = turn1 ip t ifs cenv it (fun k => do (do let _ ← call (.builtin "list.append") [acc, ← eval elt cenv]); k) (.compLoop (.ListComp elt gens scope pos) d it acc cenv)) (ha : AC prog w hb n A cenv ρ t dd ρ') (hs : ∀ y d, ρ.lookup y = some d → ρ'.lookup y = some d) (ht : TS prog w hb n A cenv ρ' ifs true)
    (he : EV prog w hb n A cenv ρ' [] elt y) (hr : CL prog w hb n A cenv (.ListComp elt gens scope pos) d t ρ xs ys) : CL prog w hb n A cenv (.ListComp elt gens scope pos) d t ρ (dd :: xs) (y :: ys) :=
  .mk fun s₀ S₀ Wt sr s S I D all W St k zs R it ap hr' x hS hn st hk hd hz hR => by
  obtain ⟨hd1, hd2, hk2⟩ := drop_cons hd
  refine comp_item (emit := fun acc k => do (do let _ ← call (.builtin "list.append") [acc, ← eval elt cenv]); k) hT it st hd1 fun v s₁ g₁ st₁ r₁ => ?_
  have x₁ := x.turn g₁.gw ap hr' (fun b o hb' e => it.nc _ _ b o st hb' e)
  refine ha.run s₀ S₀ Wt s₁ v _ _ x₁.cx (r₁ _ hS fun b q => x.cx.bd q) fun s₂ o₂ l₂ => ?_
  refine ht.run s₀ S₀ Wt s₂ _ _ o₂.cx fun s₃ g₃ => ?_
  rw [if_pos rfl]
  have hn₁ : ∀ b, s₁.heap.get? b = none → S b := fun b q => hn b (by
    cases e : s.heap.get? b with
    | none => rfl
    | some o => obtain ⟨o', e'⟩ := g₁.ex b o e; rw [q] at e'; cases e')
  have hL : S cenv.locals := hS _ (.inr (.inr (.inl rfl)))
  have hD : S D := hS _ (.inr (.inl x.wtD))
  have x₃ := (x₁.bind o₂ l₂).keep g₃
  refine wpAny_bind (wpAny_bind (he.run s₀ S₀ Wt s₃ _ _ x₃.cx fun u s₄ g₄ r₄ => ?_))
  refine wpAny_bind ((x₃.keep g₄).append r₄ (by simp at hz; omega) fun s₅ x₅ g₅ => wpAny_pure (wpAny_pure ⟨rfl, ?_⟩))
  obtain ⟨st₅, hn₅⟩ := turn_on (T := fun b => b = cenv.locals ∨ b = D) it hn₁ st₁ (((l₂.mono fun _ q => .inl q).tr ((g₃.tr g₄).mono fun _ q => q.elim)).tr (g₅.mono fun _ q => .inr q)) (by rintro b (rfl | rfl); exact hL; exact hD)
  exact hr.run s₀ S₀ Wt sr s₅ S I D all W St (k + 1) (zs ++ [y]) R it ap hr' (x₅.sub hs) hS hn₅ st₅ hk2 hd2 (by simp at hz ⊢; omega) fun s' x' => hR s' (by simpa using x')

theorem compStart_two {R : Result → Shared → Prop} {elt t iter t' iter' : Expr} {ifs ifs' : List Expr} {scope : Scope} {pos : Pos} {it acc : Value}
    (h0 : codeAny (model prog w) A (.compLoop (.ListComp elt [⟨t, iter, ifs, 0⟩, ⟨t', iter', ifs', 0⟩] scope pos) 1 it acc cenv) R s)
    (h : ∀ E', wpAny (model prog w) A (pyIter it) (fun it' s' => codeAny (model prog w) A (.compLoop (.ListComp elt [⟨t, iter, ifs, 0⟩, ⟨t', iter', ifs', 0⟩] scope pos) 1 it' acc cenv) R s') E' s) :
    codeAny (model prog w) A (.compStart (.ListComp elt [⟨t, iter, ifs, 0⟩, ⟨t', iter', ifs', 0⟩] scope pos) 1 it acc cenv) R s := by
  refine codeAny_of_tree ?_
  show wpAny _ _ ((compStart (.ListComp elt [⟨t, iter, ifs, 0⟩, ⟨t', iter', ifs', 0⟩] scope pos) 1 it acc cenv).onRaise (fun x => do noteFrame x cenv; standAt theWindowsPlace)) _ _ s
  refine wpAny_notedAt ?_
  unfold compStart
  show wpAny _ _ (ask >>= _) _ _ s
  refine wpAny_bind (wpAny_askSetting (wpAny_ite ?_))
  split
  · first
      | exact wpAny_bind (wpAny_pure (wpAny_pure (And.intro rfl h0)))
      | exact wpAny_pure (And.intro rfl h0)
  · first
      | exact wpAny_bind (wpAny_rule (wpAny_bind (wpAny_standAt (wpAny_bind (wpAny_mono (h _) (fun it' s' h' => wpAny_pure (And.intro rfl h')) fun _ _ x => x)))))
      | (refine wpAny_bind (wpAny_rule ?_); show wpAny _ _ (standAt iter'.pos >>= _) _ _ s; exact wpAny_bind (wpAny_standAt (wpAny_bind (wpAny_mono (h _) (fun it' s' h' => wpAny_pure (And.intro rfl h')) fun _ _ x => x))))

/-- a turn whose element is a loop of its own -/
theorem CL.inner {elt : Expr} {t iter t' iter' : Expr} {ifs ifs' : List Expr} {scope : Scope} {pos : Pos} {dd : PyData} {xs us ys zs' : List PyData} (ha : AC prog w hb n A cenv ρ t dd ρ') (hs : ∀ y d, ρ.lookup y = some d → ρ'.lookup y = some d) (ht : TS prog w hb n A cenv ρ' ifs true)
    (hi : EI prog w hb n A cenv ρ' [] t' iter' us) (hin : CL prog w hb n A cenv (.ListComp elt [⟨t, iter, ifs, 0⟩, ⟨t', iter', ifs', 0⟩] scope pos) 1 t' ρ' us ys)
    (hr : CL prog w hb n A cenv (.ListComp elt [⟨t, iter, ifs, 0⟩, ⟨t', iter', ifs', 0⟩] scope pos) 0 t ρ xs zs') (hf : ∀ x, foldedSetIterable iter' cenv x = pure x := by intro _; rfl) : CL prog w hb n A cenv (.ListComp elt [⟨t, iter, ifs, 0⟩, ⟨t', iter', ifs', 0⟩] scope pos) 0 t ρ (dd :: xs) (ys ++ zs') :=
  .mk fun s₀ S₀ Wt sr s S I D all W St k zs R it ap hr' x hS hn st hk hd hz hR => by
  obtain ⟨hd1, hd2, hk2⟩ := drop_cons hd
  refine comp_item (fun it acc => turn_outer elt t iter t' iter' ifs ifs' scope pos it acc cenv) it st hd1 fun v s₁ g₁ st₁ r₁ => ?_
  have x₁ := x.turn g₁.gw ap hr' (fun b o hb' e => it.nc _ _ b o st hb' e)
  refine ha.run s₀ S₀ Wt s₁ v _ _ x₁.cx (r₁ _ hS fun b q => x.cx.bd q) fun s₂ o₂ l₂ => ?_
  refine ht.run s₀ S₀ Wt s₂ _ _ o₂.cx fun s₃ g₃ => ?_
  rw [if_pos rfl]
  have hn₁ : ∀ b, s₁.heap.get? b = none → S b := fun b q => hn b (by
    cases e : s.heap.get? b with
    | none => rfl
    | some o => obtain ⟨o', e'⟩ := g₁.ex b o e; rw [q] at e'; cases e')
  have hL : S cenv.locals := hS _ (.inr (.inr (.inl rfl)))
  have hD : S D := hS _ (.inr (.inl x.wtD))
  have x₃ := (x₁.bind o₂ l₂).keep g₃
  refine wpAny_bind (wpAny_mono (hi.run s₀ S₀ Wt s₃ (fun itv s₅ => wpAny (model prog w) A (runOwn (.compStart (.ListComp elt [⟨t, iter, ifs, 0⟩, ⟨t', iter', ifs', 0⟩] scope pos) 1 itv (.ref D) cenv) cenv) (fun _ s₆ => codeAny (model prog w) A (.compLoop (.ListComp elt [⟨t, iter, ifs, 0⟩, ⟨t', iter', ifs', 0⟩] scope pos) 0 (.ref I) (.ref D) cenv) R s₆) (notedBy (model prog w) A cenv fun e s' => R (.error e) s') s₅) _ x₃.cx fun I' S' W' St' s₅ g₅ it' bg' st' => ?_) (fun xv s₄ h₄ => ?_) fun _ _ e => e)
  rotate_left
  · refine wpAny_bind (wpAny_standAt (wpAny_bind (wpAny_of_eq (hf xv) (wpAny_bind (wpAny_holding (wpAny_mono h₄ (fun itv s₅ h₅ => ?_) fun _ _ e => e))))))
    exact wpAny_bind (wpAny_mono h₅ (fun _ s₆ h₆ => wpAny_pure ⟨rfl, h₆⟩) fun _ _ e => e)
  have x₅ := x₃.keep g₅
  have loop := hin.run s₀ S₀ Wt s₃ s₅ S' I' D us W' St' 0 zs (fun r s₆ => match r with
      | .ok f => codeAny (model prog w) A (.compLoop (.ListComp elt [⟨t, iter, ifs, 0⟩, ⟨t', iter', ifs', 0⟩] scope pos) 0 (.ref I) (.ref D) cenv) R s₆
      | .error e => cameBackBy (model prog w) A cenv (notedBy (model prog w) A cenv fun e s' => R (.error e) s') e s₆) it' (x₃.cx.apartNew bg'.own) bg'.own ⟨x₅.cx, x₅.acc, g₅.mono fun _ q => q.elim, x₅.wtD, x₅.dc, x₅.dcell⟩ bg'.sub bg'.new st' (Nat.zero_le _) rfl (by simp at hz; omega) fun s₆ x₆ => by
    obtain ⟨st₆, hn₆⟩ := turn_on (T := fun b => b = D ∨ b = cenv.locals) it hn₁ st₁ ((l₂.mono fun _ q => .inr q).tr ((g₃.mono fun _ q => q.elim).tr x₆.go)) (by rintro b (rfl | rfl); exact hD; exact hL)
    exact hr.run s₀ S₀ Wt sr s₆ S I D all W St (k + 1) (zs ++ ys) R it ap hr' (CLx.sub ⟨x₆.cx, x₆.acc, x₃.go.tr x₆.go, x₆.wtD, x₆.dc, x₆.dcell⟩ hs) hS hn₆ st₆ hk2 hd2 (by simp at hz ⊢; omega) fun s' x' => hR s' (by simpa using x')
  exact wpAny_runOwn (h := none) (compStart_two loop fun E' => it'.self 0 s₅ _ E' st' loop)
end
end Mine

namespace Mine
open PySem PySem.Calls PyProof.Rows

section
variable {prog : Program} {w : World} {hb : Heap} {n : Nat} {A : Around} {env cenv : Env} {ρ ρ' ρc : Rho} {ω ω' : Omega} {s₀ sr s s' s'' : Shared} {S₀ Wt Wn : ASet} {D : Addr} {zs : List PyData}

theorem Cx.wtDown {Wt' : ASet} (x : Cx hb n A env s₀ S₀ Wt' ρ ω s) (h : ∀ b, Wt b → Wt' b) : Cx hb n A env s₀ S₀ Wt ρ ω s :=
  have sx : ∀ b, Sx S₀ Wt env ω b → Sx S₀ Wt' env ω b := fun b q => q.elim .inl fun q => .inr (q.elim (fun q => .inl (h b q)) .inr)
  { x with
    wt := fun b q => x.wt b (h b q)
    loc := fun y d e => let ⟨v, a, r⟩ := x.loc y d e; ⟨v, a, r.weak sx⟩
    own := fun p hp => let ⟨a, b, c, d, e, r⟩ := x.own p hp; ⟨a, b, c, d, fun q => e (h _ q), r.weak sx⟩ }

theorem Cx.grow (x : Cx hb n A env s₀ S₀ Wt ρ ω s) (g : Go0 s s') (h : ∀ b, Wn b → s.heap.get? b = none ∧ ∃ o, s'.heap.get? b = some o) : Cx hb n A env s₀ S₀ (fun b => Wt b ∨ Wn b) ρ ω s' := by
  have y := x.keep g
  have sx : ∀ b, Sx S₀ (fun b => Wt b ∨ Wn b) env ω b → Sx S₀ Wt env ω b ∨ s.heap.get? b = none := fun b q => by
    rcases q with q | (q | q) | q
    · exact .inl (.inl q)
    · exact .inl (.inr (.inl q))
    · exact .inr (h b q).1
    · exact .inl (.inr (.inr q))
  have g' : Go (Sx S₀ Wt env ω) s s' := g.mono fun _ q => q.elim
  refine { y with wt := fun b q => ?_, loc := fun z d e => ?_, own := fun p hp => ?_ }
  · rcases q with q | q
    · exact y.wt b q
    · refine ⟨(h b q).2, ?_⟩
      cases e : s₀.heap.get? b with
      | none => rfl
      | some o => have := x.go.k0 b o e; rw [(h b q).1] at this; cases this
  · obtain ⟨v, a, r⟩ := x.loc z d e
    exact ⟨v, a.kp g.k0, r.shut g' sx⟩
  · obtain ⟨a, b, c, d, e, r⟩ := x.own p hp
    refine ⟨a.kp g.k0, b, c, d, ?_, r.shut g' (fun o => g.k0 _ o) sx⟩
    rintro (q | q)
    · exact e q
    · obtain ⟨o, ho, _⟩ := r.cont
      rw [(h _ q).1] at ho; cases ho

theorem Cx.dropWt {T : ASet} (x : Cx hb n A env s₀ S₀ (fun b => Wt b ∨ T b) ρ ω s) (g : Gw T s s') (hT : ∀ b, T b → ¬ Wt b ∧ b ≠ env.locals ∧ ∀ y, (y, b) ∉ env.cells) : Cx hb n A env s₀ S₀ Wt ρ ω s' := by
  have nw : ∀ b o, s₀.heap.get? b = some o → ¬ T b := fun b o e q => by rw [(x.wt b (.inr q)).2] at e; cases e
  have up : ∀ b, Sx S₀ Wt env ω b → Sx S₀ (fun b => Wt b ∨ T b) env ω b := fun b q => q.elim .inl fun q => .inr (q.elim (fun q => .inl (.inl q)) .inr)
  have gS : ∀ {v d}, Rep (Sx S₀ (fun b => Wt b ∨ T b) env ω) s.heap v d → Rep (Sx S₀ Wt env ω) s'.heap v d := fun r => r.mono (fun b o hb' e => g.kp b o (fun q => hb' (.inr (.inl (.inr q)))) e) fun b _ _ q => up b q
  have at' : ∀ y v, At env s.heap y v → At env s'.heap y v := fun y v a => by
    rcases a with ⟨hk, m, hn, hm⟩ | ⟨hk, c, hc, hv⟩
    · exact .inl ⟨hk, m, hn.at' (fun o e => g.kp _ o (fun q => (hT _ q).2.1 rfl) e), hm⟩
    · refine .inr ⟨hk, c, hc, ?_⟩
      obtain ⟨o, e, d⟩ := hv
      exact ⟨o, g.kp c o (fun q => (hT c q).2.2 y (mem_of_lookup hc)) e, d⟩
  exact { x with
    go := ⟨fun b o _ e => g.kp b o (nw b o e) (x.go.k0 b o e), fun b o e => ⟨o, g.kp b o (nw b o e) (x.go.k0 b o e)⟩, fun i gs e => g.gens i gs (x.go.gens i gs e), fun q => g.bare (x.go.bare q), g.drawn.trans x.go.drawn, g.os.trans x.go.os⟩
    wt := fun b q => ⟨let ⟨o, e⟩ := (x.wt b (.inl q)).1; ⟨o, g.kp b o (fun q' => (hT b q').1 q) e⟩, (x.wt b (.inl q)).2⟩
    ns := let ⟨m, h⟩ := x.ns; ⟨m, h.at' fun o e => g.kp _ o (fun q => (hT _ q).2.1 rfl) e⟩
    cell := fun y c h => ⟨let ⟨v, o, e, d⟩ := (x.cell y c h).1; ⟨v, o, g.kp c o (fun q => (hT c q).2.2 y h) e, d⟩, (x.cell y c h).2⟩
    loc := fun y d h => let ⟨v, a, r⟩ := x.loc y d h; ⟨v, at' y v a, gS r⟩
    own := fun p hp => by
      obtain ⟨a, b, c, d, e, r⟩ := x.own p hp
      refine ⟨at' _ _ a, b, c, d, fun q => e (.inl q), ?_⟩
      rcases r with ⟨vs, n, xs, hd, hg, hr⟩ | ⟨es, n, kvs, hd, hs, hg, hr⟩
      · exact .inl ⟨vs, n, xs, hd, g.kp _ _ (fun q => e (.inr q)) hg, hr.1, fun i v d a b => gS (hr.2 i v d a b)⟩
      · exact .inr ⟨es, n, kvs, hd, hs, g.kp _ _ (fun q => e (.inr q)) hg, hr.1, hr.2.1, fun i en kv p q => let ⟨a, b, c⟩ := hr.2.2 i en kv p q; ⟨a, b, gS c⟩⟩ }

theorem clOf_names {cells : List (Str × Addr)} : ∀ {names : List (Str × NameKind)} {acc : List (Str × Addr)}, ((names.map (·.1)) ++ acc.map (·.1)).Nodup → ((clOf cells names acc).map (·.1)).Nodup
  | [], acc, h => by simpa [clOf] using h
  | (m, k) :: r, acc, h => by
    unfold clOf
    have h' := h
    rw [List.map_cons, List.cons_append, List.nodup_cons] at h'
    split
    · refine clOf_names ?_
      rw [List.map_cons]
      rw [List.nodup_append] at h' ⊢
      obtain ⟨hm, h1, h2, h3⟩ := h'
      rw [List.mem_append, not_or] at hm
      refine ⟨h1, List.nodup_cons.mpr ⟨hm.2, h2⟩, fun a ha b hb' => ?_⟩
      rcases List.mem_cons.mp hb' with rfl | hb'
      · exact fun q => hm.1 (q ▸ ha)
      · exact h3 a ha b hb'
    · exact clOf_names h'.2

theorem clOf_apart {cells : List (Str × Addr)} {names : List (Str × NameKind)} (hn : (names.map (·.1)).Nodup) (hp : cells.Pairwise fun x y => x.2 ≠ y.2) (hf : ∀ n, (n, NameKind.free) ∈ names → (cells.lookup n).isSome = true) : (clOf cells names []).Pairwise fun x y => x.2 ≠ y.2 := by
  have h1 : ((clOf cells names []).map (·.1)).Nodup := clOf_names (by simpa using hn)
  have h2 : (clOf cells names []).Pairwise fun x y => x.1 ≠ y.1 := by
    rw [List.Nodup, List.pairwise_map] at h1; exact h1
  have mem : ∀ x ∈ clOf cells names [], x ∈ cells := fun x hx => by
    rcases clOf_mem (n := x.1) (c := x.2) hx with h | ⟨h, e⟩
    · cases h
    · obtain ⟨c, hc⟩ := Option.isSome_iff_exists.mp (hf _ h)
      rw [hc] at e
      have := mem_of_lookup hc
      rw [show c = x.2 from e.symm] at this
      exact this
  exact h2.imp_of_mem fun {x y} hx hy hne e => hne (name_of_addr hp (n := x.1) (n' := y.1) (c := x.2) (mem x hx) (e ▸ mem y hy))

/-- what a comprehension's scope must be -/
structure ScopeOk (scope : Scope) (env : Env) : Prop where
  free : ∀ n, (n, NameKind.free) ∈ scope.names → (env.cells.lookup n).isSome = true
  cell : ∀ x ∈ scope.names, x.2 ≠ .cell
  kind : scope.kind = .function
  nodup : (scope.names.map (·.1)).Nodup
theorem ScopeOk.of {scope : Scope} {env : Env} (h1 : (scope.names.all fun x => x.2 != .free || (env.cells.lookup x.1).isSome) = true) (h2 : (scope.names.all fun x => x.2 != .cell) = true) (h3 : scope.kind = .function) (h4 : (scope.names.map (·.1)).Nodup) : ScopeOk scope env :=
  ⟨fun n hn => by simpa using List.all_eq_true.mp h1 _ hn, fun x hx => by simpa using List.all_eq_true.mp h2 x hx, h3, h4⟩
theorem lookup_of_nodup {α : Type} : ∀ {l : List (Str × α)} {n : Str} {a : α}, (l.map (·.1)).Nodup → (n, a) ∈ l → l.lookup n = some a
  | (m, b) :: r, n, a, hn, h => by
    rw [List.map_cons, List.nodup_cons] at hn
    rw [List.lookup_cons]
    rcases List.mem_cons.mp h with e | h
    · cases e; simp
    · have : (n == m) = false := by
        simp only [beq_eq_false_iff_ne]
        rintro rfl
        exact hn.1 (List.mem_map.mpr ⟨(n, a), by assumption, rfl⟩)
      rw [this]; exact lookup_of_nodup hn.2 h
theorem ScopeOk.names {scope : Scope} (k : ScopeOk scope env) : ∀ x ∈ scope.names, x.2 = .local → scope.names.lookup x.1 = some .local := fun x hx e => by
  rw [← e]; exact lookup_of_nodup k.nodup hx

structure CompEnd (S₀ Wt : ASet) (env : Env) (ω : Omega) (ys : List PyData) (s : Shared) (D C : Addr) (s' : Shared) : Prop where
  go : Go0 s s'
  newD : s.heap.get? D = none
  newC : s.heap.get? C = none
  ne : D ≠ C
  ns : ∃ m, s'.heap.Ns C m
  acc : AccAt (fun b => Sx S₀ Wt env ω b ∨ b = C ∨ b = D) s' D ys

theorem comp_run {elt t iter : Expr} {ifs : List Expr} {rest : List Comprehension} {scope : Scope} {pos : Pos} {xs ys : List PyData} {R : Value → Addr → Result → Shared → Prop} {E : Value → Shared → Prop} (x : Cx hb n A env s₀ S₀ Wt ρ ω s) (hi : EI prog w hb n A env ρ ω t iter xs) (k : ScopeOk scope env) (hv : Vis scope env ρ ρc)
    (hc : ∀ C, CL prog w hb n A (compEnvC scope (clOf env.cells scope.names []) C env) (.ListComp elt (⟨t, iter, ifs, 0⟩ :: rest) scope pos) 0 t ρc xs ys) (hz : ys.length ≤ 1000000)
    (hR : ∀ D C s', CompEnd S₀ Wt env ω ys s D C s' → R (.ref D) C (.ok .next) s') :
    wpAny (model prog w) A (eval iter env) (fun xv s₁ => wpAny (model prog w) A (pyIter xv) (fun it s₂ => wpAny (model prog w) A (newList []) (fun acc s₃ => wpAny (model prog w) A (newFunctionEnv scope env.globals (clOf env.cells scope.names []) [] env.qual none .none (some env)) (fun cenv s₄ =>
      codeAny (model prog w) A (.compStart (.ListComp elt (⟨t, iter, ifs, 0⟩ :: rest) scope pos) 0 it acc { cenv with scope := relabel scope env }) (R acc cenv.locals) s₄) E s₃) E s₂) E s₁) E s :=
  hi.run s₀ S₀ Wt s _ E x fun I S W St s₂ g it bg st => by
    refine wpAny_newObj_type (wpAny_newFunctionEnv k.cell (by intro y hy; simp at hy) (fun h₁ hns₁ hsb₁ => ?_) k.kind)
    dsimp only at hns₁ hsb₁ ⊢
    generalize hH2 : s₂.heap.push { cls := .type "list", dict := none, data := .seq ([] : List Value).toArray } = H2 at hns₁ hsb₁ ⊢
    have hC : H2.objs.size = s₂.heap.objs.size + 1 := by rw [← hH2, Heap.size_push]
    have hDC : s₂.heap.objs.size ≠ H2.objs.size := by rw [hC]; exact Nat.ne_of_lt (Nat.lt_succ_self _)
    have no : ∀ b, s₂.heap.objs.size ≤ b → s₂.heap.get? b = none := fun b hb' => by
      cases e : s₂.heap.get? b with
      | none => rfl
      | some o => exact absurd (Heap.lt_size e) (Nat.not_lt.mpr hb')
    have noD := no s₂.heap.objs.size (Nat.le_refl _)
    have noC := no H2.objs.size (by rw [hC]; exact Nat.le_succ _)
    have old : ∀ b o, s₂.heap.get? b = some o → h₁.get? b = some o := fun b o e => hsb₁.extBut b o (fun q => by rw [q, noC] at e; cases e) (Heap.get?_push_of_some _ (hH2 ▸ Heap.get?_push_of_some _ e))
    have hacc : h₁.PlainList s₂.heap.objs.size #[] := ⟨_, hsb₁.extBut _ _ hDC (Heap.get?_push_of_some _ (hH2 ▸ Heap.get?_push_size _ rfl))⟩
    generalize hs₃ : ({ s₂ with heap := h₁, toks := s₂.toks + ([] : List (Str × Value)).length } : Shared) = s₃
    have e₃ : s₃.heap = h₁ := by rw [← hs₃]
    have g₃ : Go0 s₂ s₃ := hs₃ ▸ Go.heap0 old
    have gg := g.tr g₃
    have fr : ∀ b, s₂.heap.get? b = none → s.heap.get? b = none := fun b q => by
      cases e : s.heap.get? b with
      | none => rfl
      | some o => have := g.k0 _ _ e; rw [q] at this; cases this
    generalize hD : s₂.heap.objs.size = D at *
    generalize hCC : H2.objs.size = C at *
    have D₀ : s₀.heap.get? D = none := by
      cases e : s₀.heap.get? D with
      | none => rfl
      | some o => have := x.go.k0 _ _ e; rw [fr D noD] at this; cases this
    have C₀ : s₀.heap.get? C = none := by
      cases e : s₀.heap.get? C with
      | none => rfl
      | some o => have := x.go.k0 _ _ e; rw [fr C noC] at this; cases this
    have x₃ := x.keep gg
    have hDe : ∃ o, s₃.heap.get? D = some o := by obtain ⟨m, e⟩ := hacc; exact ⟨_, e₃ ▸ e⟩
    have hCn : ∀ c, (∃ n, (n, c) ∈ env.cells) → c ≠ C ∧ c ≠ D := fun c ⟨nm, hm⟩ => by
      obtain ⟨⟨v, o, e, _⟩, _⟩ := x.cell nm c hm
      exact ⟨fun q => (by rw [q, fr C noC] at e; cases e), fun q => (by rw [q, fr D noD] at e; cases e)⟩
    have memcl : ∀ y c, (y, c) ∈ clOf env.cells scope.names [] → (y, c) ∈ env.cells := fun y c hm => by
      rcases clOf_mem hm with h | ⟨h, e⟩
      · cases h
      · obtain ⟨c', hc'⟩ := Option.isSome_iff_exists.mp (k.free _ h)
        rw [hc'] at e
        exact e ▸ mem_of_lookup hc'
    -- the context inside
    have sx : ∀ b, Sx S₀ (fun b => b = D ∨ Wt b ∨ Mx env ω b) (compEnvC scope (clOf env.cells scope.names []) C env) [] b → Sx S₀ Wt env ω b ∨ s₂.heap.get? b = none := fun b q => by
      rcases q with q | (q | q | q) | q | q | ⟨p, hp, _⟩
      · exact .inl (.inl q)
      · exact .inr (q ▸ noD)
      · exact .inl (.inr (.inl q))
      · exact .inl (Mx.sx b q)
      · exact .inr (by rw [show b = C from q]; exact noC)
      · obtain ⟨nm, hm⟩ := q
        exact .inl (.inr (.inr (.inr (.inl ⟨nm, memcl nm b hm⟩))))
      · cases hp
    have xin : Cx hb n A (compEnvC scope (clOf env.cells scope.names []) C env) s₀ S₀ (fun b => b = D ∨ Wt b ∨ Mx env ω b) ρc [] s₃ := by
      refine ⟨x.base, x₃.go, x.room, ?_, x.glob, x.blt, x.s0, fun b q => ?_, ⟨_, e₃ ▸ hns₁⟩, C₀, fun y c hm => ?_, clOf_apart k.nodup x.apart k.free, fun y d e => ?_, (fun p hp => nomatch hp), List.nodup_nil⟩
      · exact k.kind
      · rcases q with q | q | q | ⟨nm, q⟩ | ⟨p, hp, q⟩
        · exact ⟨q ▸ hDe, q ▸ D₀⟩
        · exact x₃.wt b q
        · exact ⟨x₃.bd (.inr (.inr (.inl q))), q ▸ x.lnew⟩
        · exact ⟨x₃.bd (.inr (.inr (.inr (.inl ⟨nm, q⟩)))), (x.cell nm b q).2.1⟩
        · exact ⟨x₃.bd (.inr (.inr (.inr (.inr ⟨p, hp, q⟩)))), q ▸ (x.own p hp).2.1⟩
      · have hm' := memcl y c hm
        exact ⟨(x₃.cell y c hm').1, (x.cell y c hm').2.1, (hCn c ⟨y, hm'⟩).1⟩
      · obtain ⟨h1, h2, h3⟩ := hv.at e
        obtain ⟨v, at_, r⟩ := x.loc y d h1
        rcases at_ with ⟨hk, _⟩ | ⟨hk, c, hl, hcv⟩
        · rw [hk] at h3; rcases h3 with h3 | h3 <;> cases h3
        · refine ⟨v, .inr ⟨relabel_free h2, c, clOf_lookup (mem_of_lookup h2) hl, hcv.keeps gg.k0⟩, ?_⟩
          exact r.shut (gg.mono fun _ q => q.elim) fun b q => (sx b q).imp id (fr b)
    have xl : CLx hb n A (compEnvC scope (clOf env.cells scope.names []) C env) s₀ S₀ (fun b => b = D ∨ Wt b ∨ Mx env ω b) s D ρc [] s₃ :=
      ⟨xin, ⟨[], by rw [e₃]; exact hacc, .nil⟩, gg.mono fun _ q => q.elim, .inl rfl, hDC, fun y hm => (hCn D ⟨y, memcl y D hm⟩).2 rfl⟩
    have ap : Apart s₀ (compEnvC scope (clOf env.cells scope.names []) C env) (fun b => b = D ∨ Wt b ∨ Mx env ω b) W := by
      have ap₀ := x.apartNew bg.own
      have wD : ∀ b, W b → b ≠ D ∧ b ≠ C := fun b q => by
        obtain ⟨o, e⟩ := bg.ex b q
        exact ⟨fun z => (by rw [z, noD] at e; cases e), fun z => (by rw [z, noC] at e; cases e)⟩
      refine ⟨fun b q q' => ?_, ap₀.new, fun b q => (wD b q).2, fun b q y hm => ap₀.cell b q y (memcl y b hm)⟩
      rcases q' with q' | q' | q' | ⟨nm, q'⟩ | ⟨p, hp, q'⟩
      · exact (wD b q).1 q'
      · exact ap₀.wt b q q'
      · exact ap₀.loc b q q'
      · exact ap₀.cell b q nm q'
      · have := bg.own b q
        obtain ⟨o, ho, _⟩ := (x.own p hp).2.2.2.2.2.cont
        rw [q', this] at ho; cases ho
    have loop := (hc C).run s₀ S₀ (fun b => b = D ∨ Wt b ∨ Mx env ω b) s s₃ S I D xs W St 0 [] (R (.ref D) C) it ap bg.own xl (fun b q => ?_) (fun b q => ?_) (it.frame _ _ _ st (g₃.mono fun _ q => q.elim)) (Nat.zero_le _) rfl (by simpa using hz) fun s' x' => ?_
    · exact codeAny_compStart_list loop (it.self 0 s₃ _ _ (it.frame _ _ _ st (g₃.mono fun _ q => q.elim)) loop)
    · exact (sx b q).elim (bg.sub b) (bg.new b)
    · refine bg.new b ?_
      cases e : s₂.heap.get? b with
      | none => rfl
      | some o => have := g₃.k0 _ _ e; rw [q] at this; cases this
    · have nDC : ∀ b o, s.heap.get? b = some o → ¬ (b = D ∨ b = C) := fun b o e q => by
        rcases q with q | q
        · rw [q, fr D noD] at e; cases e
        · rw [q, fr C noC] at e; cases e
      have go : Go0 s s' := ⟨fun b o _ e => x'.go.kp b o (nDC b o e) e, fun b o e => ⟨o, x'.go.kp b o (nDC b o e) e⟩, x'.go.gens, x'.go.bare, x'.go.drawn, x'.go.os⟩
      refine hR D C s' ⟨go, fr D noD, fr C noC, hDC, x'.cx.ns, ?_⟩
      obtain ⟨vs, hp, r⟩ := x'.acc
      refine ⟨vs, hp, (show Reps _ _ vs ys by simpa using r).weak fun b q => ?_⟩
      rcases q with (q | q | q) | q | q
      · exact .inl q
      · exact .inr (.inl (.inr (.inl q)))
      · exact .inr (.inl (.inr (.inr q)))
      · exact .inr (.inr (.inl q))
      · exact .inr (.inl (.inl q))

theorem EV.comp {elt t iter : Expr} {ifs : List Expr} {rest : List Comprehension} {scope : Scope} {pos : Pos} {xs ys : List PyData} (hi : EI prog w hb n A env ρ ω t iter xs) (k : ScopeOk scope env) (hv : Vis scope env ρ ρc)
    (hc : ∀ C, CL prog w hb n A (compEnvC scope (clOf env.cells scope.names []) C env) (.ListComp elt (⟨t, iter, ifs, 0⟩ :: rest) scope pos) 0 t ρc xs ys) (hz : ys.length ≤ 1000000) (hf : ∀ x, foldedSetIterable iter env x = pure x := by intro _; rfl) :
    EV prog w hb n A env ρ ω (.ListComp elt (⟨t, iter, ifs, 0⟩ :: rest) scope pos) (.list ys) := .mk fun s₀ S₀ Wt s Q E x hQ => by
  rw [eval_ListComp]
  refine wpAny_comprehension_free (use := none) rfl hf (closureFor_is k.free) k.kind k.names (comp_run (R := fun acc C => compPost (model prog w) A E none Q acc C) x hi k hv hc hz fun D C s' e => ?_)
  refine ⟨e.ns.choose, e.ns.choose_spec, fun h' hs' => ?_⟩
  have gC : Gw (fun b => b = C) s' { s' with heap := h' } := Gw.heap (tk := s'.toks) fun b o hb' e' => (hs'.2 b hb').trans e'
  have nC : ∀ b o, s.heap.get? b = some o → b ≠ C := fun b o e' q => by rw [q, e.newC] at e'; cases e'
  have go : Go0 s { s' with heap := h' } := ⟨fun b o _ e' => gC.kp b o (nC b o e') (e.go.k0 b o e'), fun b o e' => ⟨o, gC.kp b o (nC b o e') (e.go.k0 b o e')⟩, e.go.gens, e.go.bare, e.go.drawn, e.go.os⟩
  obtain ⟨vs, ⟨m, hp⟩, r⟩ := e.acc
  refine hQ _ _ go (.listIs (vs := vs) (n := m) (fun q => ?_) (gC.kp _ _ e.ne hp) ⟨r.1, fun i v d a b => ?_⟩)
  · obtain ⟨o, e'⟩ := x.bd q
    rw [e.newD] at e'; cases e'
  · exact (r.2 i v d a b).mono (fun b o hb' e' => gC.kp b o (fun q => hb' (.inr (.inl q))) e') fun _ _ _ q => .inl q

/-- y = [a comprehension], stored before its names are let go -/
theorem ST.assignComp {y : Str} {py spos : Pos} {elt t iter : Expr} {ifs : List Expr} {rest : List Comprehension} {scope : Scope} {pos : Pos} {xs ys : List PyData} (hsw : swapsWith (.ListComp elt (⟨t, iter, ifs, 0⟩ :: rest) scope pos) (some (.Name y py)) spos.line env = pure true)
    (hi : EI prog w hb n A env ρ ω t iter xs) (k : ScopeOk scope env) (hv : Vis scope env ρ ρc)
    (hc : ∀ C, CL prog w hb n A (compEnvC scope (clOf env.cells scope.names []) C env) (.ListComp elt (⟨t, iter, ifs, 0⟩ :: rest) scope pos) 0 t ρc xs ys) (hz : ys.length ≤ 1000000) (hy : Own env y) (hω : ∀ p ∈ ω, p.1 ≠ y) (hf : ∀ x, foldedSetIterable iter env x = pure x := by intro _; rfl) :
    ST prog w hb n A env ρ ω (.Assign [.Name y py] (.ListComp elt (⟨t, iter, ifs, 0⟩ :: rest) scope pos) spos) (.next ((y, .list ys) :: ρ) ω) := .mk fun s₀ S₀ Wt s Q E x hQ => by
  rw [exec_Assign_Name_used _ _ _ _ hsw]
  refine wpAny_bind (wpAny_standAt (wpAny_bind ?_))
  show wpAny _ A (do let _ ← comprehension (.ListComp elt (⟨t, iter, ifs, 0⟩ :: rest) scope pos) scope env _ (newList []) false (eval iter env) (some (PySem.assign (.Name y py) env))) _ _ s
  refine wpAny_bind (wpAny_mono (wpAny_comprehension_free (use := some (PySem.assign (.Name y py) env)) (Q := fun _ s' => Q .next s') rfl hf (closureFor_is k.free) k.kind k.names
    (comp_run (R := fun acc C => compPost (model prog w) A E (some (PySem.assign (.Name y py) env)) (fun _ s' => Q .next s') acc C) x hi k hv hc hz fun D C s' e => ?_)) (fun _ s' hq => wpAny_pure (wpAny_pure hq)) fun _ _ e => e)
  show wpAny _ A (PySem.assign (.Name y py) env (.ref D)) _ _ s'
  obtain ⟨m, hn⟩ := e.ns
  have hCe : ∃ o, s'.heap.get? C = some o := by obtain ⟨o, _, _, e', _⟩ := hn; exact ⟨o, e'⟩
  have x' := x.grow (Wn := fun b => b = C) e.go fun b q => ⟨q ▸ e.newC, q ▸ hCe⟩
  have cL : C ≠ env.locals := fun q => by obtain ⟨o, e'⟩ := x.bd (b := env.locals) (.inr (.inr (.inl rfl))); rw [← q, e.newC] at e'; cases e'
  have cC : ∀ z, (z, C) ∉ env.cells := fun z hm => by obtain ⟨o, e'⟩ := x.bd (b := C) (.inr (.inr (.inr (.inl ⟨z, hm⟩)))); rw [e.newC] at e'; cases e'
  have rD : Rep (Sx S₀ (fun b => Wt b ∨ b = C) env ω) s'.heap (.ref D) (.list ys) := by
    obtain ⟨vs, ⟨m, hp⟩, r⟩ := e.acc
    have up : ∀ b, Sx S₀ (fun b => Wt b ∨ b = C) env ω b → Sx S₀ Wt env ω b ∨ b = C := fun b q => by
      rcases q with q | (q | q) | q
      · exact .inl (.inl q)
      · exact .inl (.inr (.inl q))
      · exact .inr q
      · exact .inl (.inr (.inr q))
    refine .listIs (fun q => ?_) hp (r.weak fun b q => (up b q).elim .inl fun q => .inr (.inl q))
    rcases up _ q with q | q
    · obtain ⟨o, e'⟩ := x.bd q
      rw [e.newD] at e'; cases e'
    · exact e.ne q
  refine wpAny_assign_Name (store_ok x' hy rD hω fun s'' g'' x'' => ?_)
  refine ⟨m, hn.at' fun o e' => g''.kp _ _ (by
    rintro (q | ⟨z, q⟩ | ⟨p, hp, q⟩)
    · exact cL q
    · exact cC z q
    · obtain ⟨o, ho, _⟩ := (x.own p hp).2.2.2.2.2.cont
      rw [q, e.newC] at ho; cases ho) e', fun h' hs' => ?_⟩
  have gC : Gw (fun b => b = C) s'' { s'' with heap := h' } := Gw.heap (tk := s''.toks) fun b o hb' e' => (hs'.2 b hb').trans e'
  have cW : ¬ Wt C := fun q => by obtain ⟨o, e'⟩ := (x.wt C q).1; rw [e.newC] at e'; cases e'
  have nC : ∀ b o, s.heap.get? b = some o → b ≠ C := fun b o e' q => by rw [q, e.newC] at e'; cases e'
  refine hQ _ _ ⟨rfl, x''.dropWt gC fun b q => ⟨q ▸ cW, q ▸ cL, q ▸ cC⟩, fun b q => .inl q, ?_⟩
  have gg : Go (Mx env ω) s s'' := (e.go.mono fun _ q => q.elim).tr g''
  exact ⟨fun b o hb' e' => gC.kp b o (nC b o e') (gg.kp b o hb' e'), fun b o e' => by
    obtain ⟨o', e''⟩ := gg.ex b o e'
    exact ⟨o', gC.kp b o' (nC b o e') e''⟩, gg.gens, gg.bare, gg.drawn, gg.os⟩
end
end Mine

namespace Mine
open PySem PySem.Calls PyProof.Rows

noncomputable def dget : List (Int × PyData) → Int → Option PyData
  | [], _ => none
  | (k', d) :: r, k => if k' = k then some d else dget r k
noncomputable def dset : List (Int × PyData) → Int → PyData → List (Int × PyData)
  | [], k, d => [(k, d)]
  | (k', d') :: r, k, d => if k' = k then (k', d) :: r else (k', d') :: dset r k d
noncomputable def vget : List (Int × Value) → Int → Option Value
  | [], _ => none
  | (k', d) :: r, k => if k' = k then some d else vget r k
noncomputable def vset : List (Int × Value) → Int → Value → List (Int × Value)
  | [], k, d => [(k, d)]
  | (k', d') :: r, k, d => if k' = k then (k', d) :: r else (k', d') :: vset r k d

theorem valueAt_vget : ∀ (vs : List (Int × Value)) (k : Int), valueAt vs k = vget vs k
  | [], _ => rfl
  | (k', v) :: r, k => by
    have ih := valueAt_vget r k
    unfold valueAt at ih ⊢
    unfold vget
    rw [List.find?_cons]
    by_cases h : k' = k
    · simp [h]
    · simp [h]; simpa using ih
theorem vset_keys : ∀ (vs : List (Int × Value)) (k : Int) (v : Value), k ∈ vs.map (·.1) → (vset vs k v).map (·.1) = vs.map (·.1)
  | [], _, _, h => by simp at h
  | (k', v') :: r, k, v, h => by
    unfold vset
    by_cases e : k' = k
    · rw [if_pos e]; rfl
    · rw [if_neg e]
      have : k ∈ r.map (·.1) := by
        rw [List.map_cons, List.mem_cons] at h
        exact h.resolve_left (Ne.symm e)
      simp [vset_keys r k v this]
theorem stored_vset : ∀ (vs : List (Int × Value)) (k : Int) (v : Value), (vs.map (·.1)).Nodup → stored vs k v = vset vs k v
  | [], k, v, _ => rfl
  | (k', v') :: r, k, v, hn => by
    rw [List.map_cons, List.nodup_cons] at hn
    have ih := stored_vset r k v hn.2
    unfold vset
    by_cases e : k' = k
    · subst e
      rw [if_pos rfl]
      unfold stored
      rw [if_pos (by simp)]
      rw [List.map_cons, if_pos rfl, map_store_of_not_mem r k' v hn.1]
    · rw [if_neg e, ← ih]
      unfold stored
      rw [List.any_cons, List.map_cons]
      have h1 : decide ((k', v').1 = k) = false := by simpa using e
      rw [h1, Bool.false_or, if_neg (show ¬ (k', v').1 = k from e)]
      cases hany : r.any (fun kv => decide (kv.1 = k)) with
      | true => simp
      | false => simp

section
variable {S : ASet} {h : Heap}
theorem VRow.nil : VRow S h [] [] := ⟨rfl, .nil⟩
theorem VRow.cons {k : Int} {v : Value} {d : PyData} {vs : List (Int × Value)} {kvs : List (Int × PyData)} (r : Rep S h v d) (x : VRow S h vs kvs) : VRow S h ((k, v) :: vs) ((k, d) :: kvs) := ⟨by simp [x.keys], by simp only [List.map_cons]; exact .cons r x.reps⟩
theorem VRow.uncons {k k' : Int} {v : Value} {d : PyData} {vs : List (Int × Value)} {kvs : List (Int × PyData)} (x : VRow S h ((k, v) :: vs) ((k', d) :: kvs)) : k = k' ∧ Rep S h v d ∧ VRow S h vs kvs := by
  have := x.keys; simp at this
  exact ⟨this.1, x.reps.head, ⟨this.2, x.reps.tail⟩⟩
theorem VRow.get : ∀ {vs : List (Int × Value)} {kvs : List (Int × PyData)}, VRow S h vs kvs → ∀ k, (dget kvs k = none ∧ vget vs k = none) ∨ ∃ d v, dget kvs k = some d ∧ vget vs k = some v ∧ Rep S h v d
  | [], [], _, k => .inl ⟨rfl, rfl⟩
  | [], _ :: _, x, k => absurd x.len (by simp)
  | _ :: _, [], x, k => absurd x.len (by simp)
  | (k', v) :: vs, (k'', d) :: kvs, x, k => by
    obtain ⟨rfl, r, x'⟩ := x.uncons
    unfold dget vget
    by_cases e : k' = k
    · rw [if_pos e, if_pos e]; exact .inr ⟨d, v, rfl, rfl, r⟩
    · rw [if_neg e, if_neg e]; exact x'.get k
theorem VRow.set {k : Int} {v : Value} {d : PyData} (r : Rep S h v d) : ∀ {vs : List (Int × Value)} {kvs : List (Int × PyData)}, VRow S h vs kvs → VRow S h (vset vs k v) (dset kvs k d)
  | [], [], _ => .cons r .nil
  | [], _ :: _, x => absurd x.len (by simp)
  | _ :: _, [], x => absurd x.len (by simp)
  | (k', v') :: vs, (k'', d') :: kvs, x => by
    obtain ⟨rfl, r', x'⟩ := x.uncons
    unfold vset dset
    by_cases e : k' = k
    · rw [if_pos e, if_pos e]; exact .cons r x'
    · rw [if_neg e, if_neg e]; exact .cons r' (VRow.set r x')
end

section
variable {prog : Program} {w : World} {hb : Heap} {n : Nat} {A : Around} {env : Env} {ρ ρ' : Rho} {ω ω' : Omega} {s₀ s s' s'' : Shared} {S₀ Wt : ASet}

/-- a dictionary at hand, read through the library's rows -/
theorem RepR.at {S : ASet} {v : Value} {kvs : List (Int × PyData)} (prog : Program) (w : World) (x : RepR S s.heap v (dictD kvs)) : ∃ a vs, v = .ref a ∧ (a == sysModules) = false ∧ s.heap.DictOf (intKind prog w) a vs ∧ VRow S s.heap vs kvs := by
  obtain ⟨a, es, m, rfl, hs, hg, hr⟩ := x.dictOf
  exact ⟨a, _, rfl, hs, (hr.dictAt hg).dictOf, hr.zip⟩

theorem EV.dictGet {o e₁ e₂ : Expr} {apos pos : Pos} {kvs : List (Int × PyData)} {k : Int} {d : PyData} (h : EVR prog w hb n A env ρ ω o (dictD kvs)) (ha : EVs prog w hb n A env ρ ω [e₁, e₂] [.int k, d])
    (hbase : attributeBase o "get" env (eval o env) = eval o env := by exact base_plain rfl) (hfew : ((backTo pos (starEach [e₁, e₂] env)).all (fun x => !x.1) && (backToKw pos (keywordEach [] env)).all (fun x => x.1.isSome) && decide ([e₁, e₂].length + ([] : List Keyword).length + (if ([] : List Keyword).isEmpty then 0 else 1) < 30)) = true := by exact few_star rfl rfl)
    (hline : (apos.endLine == pos.line) = true := by rfl) (he : starEach [e₁, e₂] env = (false, eval e₁ env) :: starEach [e₂] env := by exact star_cons rfl) (hp : (backTo pos (starEach [e₁, e₂] env)).any (·.1) = false := by exact any_star rfl) :
    EV prog w hb n A env ρ ω (.Call (.Attribute o "get" apos) [e₁, e₂] [] pos) ((dget kvs k).getD d) := .mk fun s₀ S₀ Wt s Q E x hQ => by
  refine wpAny_Call_method (T := "dict") (id := "dict.get") hbase hfew hline F.plainAttrs_dict F.slot_dict_get F.type_dict_get (h.run s₀ S₀ Wt s _ E x fun v s₁ g r => ?_)
  obtain ⟨a, es, m, rfl, hsm, hg, hr⟩ := r.dictOf
  refine ⟨⟨_, hg, rfl⟩, fun a' e => by cases e; exact ⟨_, hg, rfl⟩, method_meetsIn F.slot_dict_get F.entry_dict_get hp ?_⟩
  have hs := ha.run s₀ S₀ Wt s₁ pos (fun vs s₂ => ([] : List (Str × Value)) = [] ∧ s₂.TypeIs (.ref a) "dict" ∧ argsOk "dict.get" ⟨.ref a :: vs, []⟩ ∧ ∃ S, MeetsIn prog w (Builtin.«dict.get» ⟨.ref a :: vs, []⟩) S ∧ S A (wants Q E) s₂) E (x.keep g) fun vs s₂ g₂ rv => ?_
  · rw [he] at hs ⊢
    exact PySem.Calls.evalArgs_plain hs
  · obtain ⟨hl, hv⟩ := rv
    obtain ⟨kv, dv, rfl⟩ := lenA2 hl
    obtain ⟨t, rfl⟩ := (hv 0 kv _ rfl rfl).intOf
    have rd := hv 1 dv _ rfl rfl
    have hg₂ := g₂.k0 _ _ hg
    have hr₂ := hr.zip.shut (g₂.mono fun _ q => q.elim) fun _ q => .inl q
    refine ⟨rfl, ⟨_, hg₂, rfl⟩, F.args_dict_get_3 _ _ _, _, meets_dict_get_default (intKind prog w) a (intKind_is prog w k t) hsm dv, _, (hr.dictAt hg |>.at' (fun o e => g₂.k0 _ _ e)).dictOf.mapOf, ?_⟩
    have gt : Go0 s₂ { s₂ with toks := s₂.toks + 1 } := Go.tok
    rw [valueAt_vget]
    rcases hr₂.get k with ⟨h1, h2⟩ | ⟨d', v', h1, h2, h3⟩
    · rw [h2]; exact hQ dv _ ((g.tr g₂).tr gt) (by rw [h1]; exact rd.go0 gt)
    · rw [h2]; exact hQ v' _ ((g.tr g₂).tr gt) (by rw [h1]; exact h3.go0 gt)

theorem EV.itemD {o i : Expr} {pos : Pos} {kvs : List (Int × PyData)} {k : Int} {d : PyData} (ho : EVR prog w hb n A env ρ ω o (dictD kvs)) (hi : EV prog w hb n A env ρ ω i (.int k)) (hd : dget kvs k = some d)
    (hs : ∀ (a : Addr) (u : Tok), subscripted i false (.ref a) (.int k u) = operate [.ref a, .int k u] (getItem (.ref a) (.int k u)) := by intros; rfl) : EV prog w hb n A env ρ ω (.Subscript o i pos) d := .mk fun s₀ S₀ Wt s Q E x hQ =>
  Subscript_ (ho.run s₀ S₀ Wt s _ E x fun v s₁ g₁ r₁ => hi.run s₀ S₀ Wt s₁ _ E (x.keep g₁) fun u s₂ g₂ r₂ => by
    obtain ⟨a, vs, rfl, hsm, hm, hr⟩ := (r₁.go0 g₂).at prog w
    cases r₂
    rcases hr.get k with ⟨h1, _⟩ | ⟨d', v', h1, h2, h3⟩
    · rw [hd] at h1; cases h1
    · rw [hd] at h1; cases h1
      have gt : Go0 s₂ { s₂ with toks := s₂.toks + 1 } := Go.tok
      exact tail_any hm.typeIs F.slot_dict_getitem.lookup (wpAny_getItem_of (intKind_is prog w k _) hm.mapOf (by rw [valueAt_vget]; exact h2) (hQ v' _ ((g₁.tr g₂).tr gt) (h3.go0 gt))) (hs _ _))

theorem EB.inD {l r : Expr} {pos : Pos} {kvs : List (Int × PyData)} {k : Int} (hl : EV prog w hb n A env ρ ω l (.int k)) (hr : EVR prog w hb n A env ρ ω r (dictD kvs)) (hm : behindInMarks .In r = false := by with_unfolding_all rfl) :
    EB prog w hb n A env ρ ω (.Compare l [.In] [r] pos) (dget kvs k).isSome := .mk fun s₀ S₀ Wt s Q E x hQ =>
  wpAny_isTrue_Compare1 (hl.run s₀ S₀ Wt s _ E x fun u s₁ g₁ r₁ => hr.run s₀ S₀ Wt s₁ _ E (x.keep g₁) fun v s₂ g₂ r₂ => by
    obtain ⟨a, vs, rfl, hsm, hmm, hr⟩ := r₂.at prog w
    obtain ⟨t, rfl⟩ := r₁.intOf
    refine wpAny_in_of (intKind_is prog w k t) hsm hmm.mapOf ?_
    have gt : Go0 s₂ { s₂ with toks := s₂.toks + 1 } := Go.tok
    have e : (valueAt vs k).isSome = (dget kvs k).isSome := by
      rw [valueAt_vget]
      rcases hr.get k with ⟨h1, h2⟩ | ⟨d', v', h1, h2, h3⟩ <;> rw [h1, h2] <;> rfl
    rw [e]
    exact wpAny_truthy_bool (hQ _ ((g₁.tr g₂).tr gt))) hm

theorem Cx.sysm (T : TopF hb) (x : Cx hb n A env s₀ S₀ Wt ρ ω s) {a : Addr} (h : s.heap.objs.size ≤ a) : (a == sysModules) = false := by
  obtain ⟨o, _, _, e, _⟩ := T.g
  have h1 := Heap.lt_size (x.hb0 _ _ e)
  have h2 : sysModules < mainGlobals := by decide
  have : a ≠ sysModules := Nat.ne_of_gt (Nat.lt_of_lt_of_le (Nat.lt_trans h2 h1) h)
  simpa using this

/-- a dictionary display -/
structure EPs (prog : Program) (w : World) (hb : Heap) (n : Nat) (A : Around) (env : Env) (ρ : Rho) (ω : Omega) (ks : List (Option Expr)) (vs : List Expr) (pos : Pos) (kvs : List (Int × PyData)) : Prop where
  run : ∀ (s₀ : Shared) (S₀ Wt : ASet) (s : Shared) (Q : List (Value × Value) → Shared → Prop) (E : Value → Shared → Prop), Cx hb n A env s₀ S₀ Wt ρ ω s →
      (∀ ps s', Go0 s s' → (∃ us, Carries (intKind prog w) ps us ∧ VRow (Sx S₀ Wt env ω) s'.heap us kvs) → Q ps s') → wpAny (model prog w) A (evalPairs (pairTrees ks vs env pos)) Q E s
theorem EPs.nil {pos : Pos} : EPs prog w hb n A env ρ ω [] [] pos [] := .mk fun s₀ S₀ Wt s Q E x h => pairTrees_nil_walk (h [] s .refl ⟨[], trivial, .nil⟩)
theorem EPs.cons {k v : Expr} {ks : List (Option Expr)} {vs : List Expr} {pos : Pos} {i : Int} {d : PyData} {kvs : List (Int × PyData)} (hk : EV prog w hb n A env ρ ω k (.int i)) (hv : EV prog w hb n A env ρ ω v d) (hr : EPs prog w hb n A env ρ ω ks vs pos kvs) :
    EPs prog w hb n A env ρ ω (some k :: ks) (v :: vs) pos ((i, d) :: kvs) := .mk fun s₀ S₀ Wt s Q E x h =>
  pairTrees_cons_walk (hk.run s₀ S₀ Wt s _ E x fun kv s₁ g₁ r₁ => hv.run s₀ S₀ Wt s₁ _ E (x.keep g₁) fun vv s₂ g₂ r₂ => hr.run s₀ S₀ Wt s₂ _ E ((x.keep g₁).keep g₂) fun ps s₃ g₃ ⟨us, hc, hu⟩ => by
    obtain ⟨t, rfl⟩ := r₁.intOf
    exact h _ s₃ ((g₁.tr g₂).tr g₃) ⟨(i, vv) :: us, ⟨intKind_is prog w i t, rfl, hc⟩, .cons (r₂.go0 g₃) hu⟩)
theorem EV.dict (T : TopF hb) {ks : List (Option Expr)} {vs : List Expr} {pos : Pos} {kvs : List (Int × PyData)} (h : EPs prog w hb n A env ρ ω ks vs pos kvs) (hn : (kvs.map (·.1)).Nodup) (hall : ks.all (·.isSome) = true := by rfl) (hl : ks.length = vs.length := by rfl) (h0 : ks ≠ [] := by intro h; cases h) (hlen : ks.length ≤ 15 := by decide) :
    EV prog w hb n A env ρ ω (.Dict ks vs pos) (dictD kvs) := .mk fun s₀ S₀ Wt s Q E x hQ => by
  refine wpAny_Dict_walk (knd := intKind prog w) hall hl h0 hlen ?_
  have g₀ : Go0 s { s with heap := s.heap.push { cls := .type "dict", data := .dict #[] } } := Go.push
  have hnew : s.heap.get? s.heap.objs.size = none := fresh_size _
  have hd₀ : (s.heap.push { cls := .type "dict", data := .dict #[] }).DictOf (intKind prog w) s.heap.objs.size [] := Heap.DictOf.new s.heap
  have x₁ := x.grow (Wn := fun b => b = s.heap.objs.size) g₀ fun b q => ⟨q ▸ hnew, _, q ▸ Heap.get?_push_size _ rfl⟩
  refine h.run s₀ S₀ _ _ _ E x₁ fun ps s₁ g₁ ⟨us, hc, hu⟩ => ?_
  have hk : us.map (·.1) = kvs.map (·.1) := hu.keys
  refine ⟨us, hc, hd₀.keep g₁.k0, fun h' hm hs => ?_⟩
  rw [merged_nil_of_nodup _ (by rw [hk]; exact hn)] at hm
  have nD : ∀ b o, s.heap.get? b = some o → b ≠ s.heap.objs.size := fun b o e q => by rw [q, hnew] at e; cases e
  have kp : ∀ b o, b ≠ s.heap.objs.size → s₁.heap.get? b = some o → h'.get? b = some o := fun b o hb' e => (hs.2 b hb').trans e
  have gg : Go0 s { s₁ with heap := h', toks := s₁.toks + ps.length } := ⟨fun b o _ e => kp b o (nD b o e) ((g₀.tr g₁).k0 b o e), fun b o e => ⟨o, kp b o (nD b o e) ((g₀.tr g₁).k0 b o e)⟩, g₁.gens, g₁.bare, g₁.drawn, g₁.os⟩
  have up : ∀ b, Sx S₀ Wt env ω b → Sx S₀ (fun b => Wt b ∨ b = s.heap.objs.size) env ω b := fun b q => q.elim .inl fun q => .inr (q.elim (fun q => .inl (.inl q)) .inr)
  have hu' : VRow (Sx S₀ Wt env ω) h' us kvs := ⟨hu.keys, hu.reps.1, fun i v d a b => (hu.reps.2 i v d a b).mono (fun b o hb' e => kp b o (fun q => hb' (.inr (.inl (.inr q)))) e) fun b _ _ q => up b q⟩
  obtain ⟨es, m, hg, hr⟩ := hu'.ofDictOf hm
  refine hQ _ _ gg (.dictIs (fun q => ?_) (x.sysm T (Nat.le_refl _)) hg hr)
  obtain ⟨o, e⟩ := x.bd q
  rw [hnew] at e; cases e
end
end Mine

namespace Mine
open PySem PySem.Calls PyProof.Rows

section
variable {prog : Program} {w : World} {hb : Heap} {n : Nat} {A : Around} {env : Env} {ρ ρ' : Rho} {ω ω' : Omega} {s₀ s s' s'' : Shared} {S₀ Wt : ASet} {a : Addr}

/-- any value is stored under a name that stands for no data -/
theorem store_raw {M : Model} {E : Value → Shared → Prop} {y : Str} {v : Value} {Q : Unit → Shared → Prop} (x : Cx hb n A env s₀ S₀ Wt ρ ω s) (hy : Own env y) (hρ : ρ.lookup y = none) (hω : ∀ p ∈ ω, p.1 ≠ y)
    (h : ∀ s', Go (Mx env ω) s s' → Go (fun b => b = env.locals ∨ ∃ n, (n, b) ∈ env.cells) s s' → Cx hb n A env s₀ S₀ Wt ρ ω s' → At env s'.heap y v → Q () s') : wpAny M A (storeName env y v) Q E s := by
  have hρ' : ∀ z d', ρ.lookup z = some d' → (z = y ∧ Rep (Sx S₀ Wt env ω) s.heap v d') ∨ (z ≠ y ∧ ρ.lookup z = some d') := fun z d' e => .inr ⟨fun q => (by rw [q, hρ] at e; cases e), e⟩
  rcases hy with hk | ⟨hk, c, hc⟩
  · obtain ⟨m, hn⟩ := x.ns
    refine wpAny_storeName_local hk hn (fun h' hn' hs => ?_) (by rw [x.kind]; rfl)
    have z := x.storeL (tk := s.toks + 1) hk hn hn' hs hω hρ'
    obtain ⟨oL, es, ep, eL, hq⟩ := id hn'
    exact h _ z.1 (Go.same (.inl rfl) hs eL) z.2 (.inl ⟨hk, _, hn', by simp⟩)
  · obtain ⟨v₀, hv₀⟩ := (x.cell y c (mem_of_lookup hc)).1
    refine wpAny_storeName_cell x.kind hk hc hv₀ fun h' hn' hs => ?_
    have z := x.storeC (tk := s.toks) hk hc hn' hs hω hρ'
    obtain ⟨oL, eL, _⟩ := id hn'
    exact h _ z.1 (Go.same (.inr ⟨y, mem_of_lookup hc⟩) hs eL) z.2 (.inr ⟨.inl hk, c, hc, hn'⟩)

/-- a fresh container becomes an own one -/
theorem Cx.ownify {y : Str} {d : PyData} (x : Cx hb n A env s₀ S₀ (fun b => Wt b ∨ b = a) ρ ω s) (hw : ¬ Wt a) (hl : a ≠ env.locals) (hc : ∀ z, (z, a) ∉ env.cells) (ho : ∀ p ∈ ω, p.2.1 ≠ a) (at_ : At env s.heap y (.ref a)) (r : RepC (Sx S₀ (fun b => Wt b ∨ b = a) env ω) s.heap a d) :
    Cx hb n A env s₀ S₀ Wt ρ ((y, a, d) :: ω) s := by
  have sx : ∀ b, Sx S₀ Wt env ((y, a, d) :: ω) b → Sx S₀ (fun b => Wt b ∨ b = a) env ω b := fun b q => by
    rcases q with q | q | q | q | ⟨p, hp, q⟩
    · exact .inl q
    · exact .inr (.inl (.inl q))
    · exact .inr (.inr (.inl q))
    · exact .inr (.inr (.inr (.inl q)))
    · rcases List.mem_cons.mp hp with rfl | hp
      · exact .inr (.inl (.inr q.symm))
      · exact .inr (.inr (.inr (.inr ⟨p, hp, q⟩)))
  refine { x with wt := fun b q => x.wt b (.inl q), loc := fun z d e => let ⟨v, b, r⟩ := x.loc z d e; ⟨v, b, r.weak sx⟩, own := fun p hp => ?_, owna := ?_ }
  · rcases List.mem_cons.mp hp with rfl | hp
    · exact ⟨at_, (x.wt a (.inr rfl)).2, hl, hc, hw, r.weak sx⟩
    · obtain ⟨h1, h2, h3, h4, h5, h6⟩ := x.own p hp
      exact ⟨h1, h2, h3, h4, fun q => h5 (.inl q), h6.weak sx⟩
  · rw [List.map_cons, List.nodup_cons]
    exact ⟨fun hm => by obtain ⟨p, hp, e⟩ := List.mem_map.mp hm; exact ho p hp e, x.owna⟩

theorem Cx.newOwn {y : Str} {d : PyData} {o : Obj} {M : Model} {E : Value → Shared → Prop} {Q : Unit → Shared → Prop} (x : Cx hb n A env s₀ S₀ Wt ρ ω s) (hy : Own env y) (hρ : ρ.lookup y = none) (hω : ∀ p ∈ ω, p.1 ≠ y)
    (hd : ∀ S h, h.get? s.heap.objs.size = some o → RepC S h s.heap.objs.size d) (hf : o.isFreed = false)
    (h : ∀ s', NextOk hb n A env s₀ S₀ Wt ω s ρ ((y, s.heap.objs.size, d) :: ω) s' → Q () s') : wpAny M A (storeName env y (.ref s.heap.objs.size)) Q E { s with heap := s.heap.push o } := by
  have g : Go0 s { s with heap := s.heap.push o } := Go.push
  have hnew := fresh_size s.heap
  have ha : ({ s with heap := s.heap.push o } : Shared).heap.get? s.heap.objs.size = some o := Heap.get?_push_size _ hf
  have x₁ := x.grow (Wn := fun b => b = s.heap.objs.size) g fun b q => ⟨q ▸ hnew, _, q ▸ ha⟩
  have aL : s.heap.objs.size ≠ env.locals := fun q => by obtain ⟨o, e⟩ := x.bd (b := env.locals) (.inr (.inr (.inl rfl))); rw [← q, hnew] at e; cases e
  have aC : ∀ z, (z, s.heap.objs.size) ∉ env.cells := fun z hm => by obtain ⟨o, e⟩ := x.bd (b := s.heap.objs.size) (.inr (.inr (.inr (.inl ⟨z, hm⟩)))); rw [hnew] at e; cases e
  have aO : ∀ p ∈ ω, p.2.1 ≠ s.heap.objs.size := fun p hp q => by obtain ⟨o, e, _⟩ := (x.own p hp).2.2.2.2.2.cont; rw [q, hnew] at e; cases e
  have aW : ¬ Wt s.heap.objs.size := fun q => by obtain ⟨o, e⟩ := (x.wt _ q).1; rw [hnew] at e; cases e
  refine store_raw x₁ hy hρ hω fun s' g₁ g₂ x₂ at_ => h s' ⟨x₂.ownify aW aL aC aO at_ (hd _ _ (g₂.kp _ _ (by rintro (q | ⟨z, q⟩); exact aL q; exact aC z q) ha)), fun b q => ?_, (g.mono fun _ q => q.elim).tr g₁⟩
  rcases q with q | q | ⟨p, hp, q⟩
  · exact .inl (.inl q)
  · exact .inl (.inr (.inl q))
  · rcases List.mem_cons.mp hp with rfl | hp
    · exact .inr (q ▸ hnew)
    · exact .inl (.inr (.inr ⟨p, hp, q⟩))

theorem EX.newDict (T : TopF hb) {y : Str} {p pos' pos : Pos} {rest : List Stmt} {out : Out} (hy : Own env y) (hρ : ρ.lookup y = none) (hω : ∀ p ∈ ω, p.1 ≠ y) (h : ∀ a, EX prog w hb n A env ρ ((y, a, dictD []) :: ω) rest out) : EX prog w hb n A env ρ ω (.Assign [.Name y p] (.Dict [] [] pos') pos :: rest) out := .mk fun s₀ S₀ Wt s Q E x hQ =>
  wpAny_execs_cons (wpAny_Assign_Name (wpAny_Dict_empty (x.newOwn (d := dictD []) hy hρ hω (fun S h e => .inr ⟨[], 0, [], rfl, x.sysm T (Nat.le_refl _), e, rfl, List.nodup_nil, fun i e kv q => by simp at q⟩) rfl
    fun s₁ o₁ => (h _).run s₀ S₀ Wt s₁ Q E o₁.cx fun f s₂ o₂ => hQ f s₂ (o₂.after o₁.go o₁.sx))) rfl)
theorem EX.newList {y : Str} {p pos' pos : Pos} {rest : List Stmt} {out : Out} (hy : Own env y) (hρ : ρ.lookup y = none) (hω : ∀ p ∈ ω, p.1 ≠ y) (h : ∀ a, EX prog w hb n A env ρ ((y, a, .list []) :: ω) rest out) : EX prog w hb n A env ρ ω (.Assign [.Name y p] (.List [] pos') pos :: rest) out := .mk fun s₀ S₀ Wt s Q E x hQ => by
  refine wpAny_execs_cons (wpAny_Assign_Name (wpAny_List ?_) rfl)
  refine (EVs.nil (prog := prog) (w := w) (hb := hb) (n := n) (ρ := ρ) (ω := ω)).run s₀ S₀ Wt s pos' _ E x fun vs s₁ g r => ?_
  obtain ⟨hl, _⟩ := r
  match vs, hl with
  | [], _ =>
    refine ⟨by decide, ?_⟩
    exact (x.keep g).newOwn (d := .list []) hy hρ hω (fun S h e => .inl ⟨[], 0, [], rfl, e, .nil⟩) rfl fun s₂ o₂ => (h _).run s₀ S₀ Wt s₂ Q E o₂.cx fun f s₃ o₃ => hQ f s₃ ((o₃.after o₂.go o₂.sx).after (g.mono fun _ q => q.elim) fun _ q => .inl q)

/-- an own container becomes data like other data -/
theorem Cx.freeze {y : Str} {d : PyData} (x : Cx hb n A env s₀ S₀ Wt ρ ((y, a, d) :: ω) s) : Cx hb n A env s₀ S₀ Wt ((y, d) :: ρ) ω s := by
  have sx : ∀ b, Sx S₀ Wt env ω b → Sx S₀ Wt env ((y, a, d) :: ω) b := fun b q => by
    rcases q with q | q | q | q | ⟨p, hp, q⟩
    · exact .inl q
    · exact .inr (.inl q)
    · exact .inr (.inr (.inl q))
    · exact .inr (.inr (.inr (.inl q)))
    · exact .inr (.inr (.inr (.inr ⟨p, .tail _ hp, q⟩)))
  refine { x with loc := fun z d' e => ?_, own := fun p hp => let ⟨h1, h2, h3, h4, h5, h6⟩ := x.own p (.tail _ hp); ⟨h1, h2, h3, h4, h5, h6.weak sx⟩, owna := (List.nodup_cons.mp (show (a :: ω.map (·.2.1)).Nodup from x.owna)).2 }
  rcases lookup_cons_cases e with ⟨rfl, rfl⟩ | ⟨_, e⟩
  · obtain ⟨h1, h2, h3, h4, h5, h6⟩ := x.own _ (.head _)
    refine ⟨_, h1, (h6.weak sx).rep fun q => ?_⟩
    rcases q with q | q | q | ⟨z, q⟩ | ⟨p, hp, q⟩
    · obtain ⟨o, e'⟩ := x.s0 _ q
      rw [h2] at e'; cases e'
    · exact h5 q
    · exact h3 q
    · exact h4 z q
    · have := (List.nodup_cons.mp (show (a :: ω.map (·.2.1)).Nodup from x.owna)).1
      exact this (List.mem_map.mpr ⟨p, hp, q⟩)
  · obtain ⟨v, b, r⟩ := x.loc z d' e
    exact ⟨v, b, r.weak sx⟩
theorem Mx.tail {y : Str} {d : PyData} : ∀ b, Mx env ω b → Mx env ((y, a, d) :: ω) b := fun b q => q.imp id fun q => q.imp id fun ⟨p, hp, q⟩ => ⟨p, .tail _ hp, q⟩
theorem EX.freeze {y : Str} {d : PyData} {sts : List Stmt} {out : Out} (h : EX prog w hb n A env ((y, d) :: ρ) ω sts out) : EX prog w hb n A env ρ ((y, a, d) :: ω) sts out := .mk fun s₀ S₀ Wt s Q E x hQ =>
  h.run s₀ S₀ Wt s Q E x.freeze fun f s₁ o => hQ f s₁ (by
    cases out with
    | ret d => exact o
    | next ρ₂ ω₂ => exact ⟨o.1, o.2.cx, fun b q => (o.2.sx b q).imp (Mx.tail b) id, o.2.go.mono Mx.tail⟩)

/-- an own container turns -/
theorem Cx.ownTurn {y : Str} {d d' : PyData} (x : Cx hb n A env s₀ S₀ Wt ρ ((y, a, d) :: ω) s) (g : Go (fun b => b = a) s s') (r : RepC (Sx S₀ Wt env ((y, a, d) :: ω)) s'.heap a d') : NextOk hb n A env s₀ S₀ Wt ((y, a, d) :: ω) s ρ ((y, a, d') :: ω) s' := by
  obtain ⟨h1, h2, h3, h4, h5, h6⟩ := x.own _ (.head _)
  have sx : ∀ b, Sx S₀ Wt env ((y, a, d') :: ω) b → Sx S₀ Wt env ((y, a, d) :: ω) b := fun b q => by
    rcases q with q | q | q | q | ⟨p, hp, q⟩
    · exact .inl q
    · exact .inr (.inl q)
    · exact .inr (.inr (.inl q))
    · exact .inr (.inr (.inr (.inl q)))
    · rcases List.mem_cons.mp hp with rfl | hp
      · exact .inr (.inr (.inr (.inr ⟨_, .head _, q⟩)))
      · exact .inr (.inr (.inr (.inr ⟨p, .tail _ hp, q⟩)))
  have sa : Sx S₀ Wt env ((y, a, d) :: ω) a := .inr (.inr (.inr (.inr ⟨_, .head _, rfl⟩)))
  have gS : Go (Sx S₀ Wt env ((y, a, d) :: ω)) s s' := g.mono fun b q => q ▸ sa
  have nw : ∀ b o, s₀.heap.get? b = some o → b ≠ a := fun b o e q => by rw [q] at e; rw [h2] at e; cases e
  have ap : ∀ z v, At env s.heap z v → At env s'.heap z v := fun z v b => by
    rcases b with ⟨hk, m, hn, hm⟩ | ⟨hk, c, hc, o, e, dd⟩
    · exact .inl ⟨hk, m, hn.at' (fun o e => g.kp _ o (Ne.symm h3) e), hm⟩
    · exact .inr ⟨hk, c, hc, o, g.kp c o (fun q => h4 z (q ▸ mem_of_lookup hc)) e, dd⟩
  have nd := List.nodup_cons.mp (show (a :: ω.map (·.2.1)).Nodup by simpa using x.owna)
  refine ⟨{ x with
    go := ⟨fun b o _ e => g.kp b o (nw b o e) (x.go.k0 b o e), fun b o e => ⟨o, g.kp b o (nw b o e) (x.go.k0 b o e)⟩, fun i gs e => g.gens i gs (x.go.gens i gs e), fun q => g.bare (x.go.bare q), g.drawn.trans x.go.drawn, g.os.trans x.go.os⟩
    wt := fun b q => ⟨let ⟨o, e⟩ := (x.wt b q).1; g.ex b o e, (x.wt b q).2⟩
    ns := let ⟨m, h⟩ := x.ns; ⟨m, h.at' fun o e => g.kp _ o (Ne.symm h3) e⟩
    cell := fun z c h => ⟨let ⟨v, o, e, dd⟩ := (x.cell z c h).1; ⟨v, o, g.kp c o (fun q => h4 z (q ▸ h)) e, dd⟩, (x.cell z c h).2⟩
    loc := fun z dd e => let ⟨v, b, r⟩ := x.loc z dd e; ⟨v, ap z v b, (r.go gS).weak sx⟩
    own := fun p hp => ?_
    owna := by simpa using x.owna }, fun b q => .inl (by
      rcases q with q | q | ⟨p, hp, q⟩
      · exact .inl q
      · exact .inr (.inl q)
      · rcases List.mem_cons.mp hp with rfl | hp
        · exact .inr (.inr ⟨_, .head _, q⟩)
        · exact .inr (.inr ⟨p, .tail _ hp, q⟩)), g.mono fun b q => .inr (.inr ⟨_, .head _, q.symm⟩)⟩
  rcases List.mem_cons.mp hp with rfl | hp
  · exact ⟨ap _ _ h1, h2, h3, h4, h5, r.weak sx⟩
  · obtain ⟨k1, k2, k3, k4, k5, k6⟩ := x.own p (.tail _ hp)
    exact ⟨ap _ _ k1, k2, k3, k4, k5, (k6.shut gS (fun o e => g.kp _ o (fun q => nd.1 (List.mem_map.mpr ⟨p, hp, q⟩)) e) fun b q => .inl (sx b q))⟩

theorem own_load {y : Str} {d : PyData} {p : Pos} {Q E : Value → Shared → Prop} {M : Model} (x : Cx hb n A env s₀ S₀ Wt ρ ((y, a, d) :: ω) s) (hQ : Q (.ref a) s) (hd : (y == ("__debug__" : Str)) = false) (hn : (y == ("__classdict__" : Str)) = false) : wpAny M A (eval (.Name y p) env) Q E s :=
  wpAny_Name ((x.own _ (.head _)).1.load x.kind hQ hn) hd

/-- the own dictionary's row k is set -/
theorem own_set {y : Str} {kvs : List (Int × PyData)} {k : Int} {t : Tok} {v : Value} {d : PyData} {Q : Unit → Shared → Prop} {E : Value → Shared → Prop} (x : Cx hb n A env s₀ S₀ Wt ρ ((y, a, dictD kvs) :: ω) s) (r : Rep (Sx S₀ Wt env ((y, a, dictD kvs) :: ω)) s.heap v d) (hz : kvs.length ≤ 1000000)
    (hQ : ∀ s', NextOk hb n A env s₀ S₀ Wt ((y, a, dictD kvs) :: ω) s ρ ((y, a, dictD (dset kvs k d)) :: ω) s' → Q () s') : wpAny (model prog w) A (setItem (.ref a) (.int k t) v) Q E s := by
  obtain ⟨h1, h2, h3, h4, h5, h6⟩ := x.own _ (.head _)
  rcases h6 with ⟨_, _, _, e, _⟩ | ⟨es, m, kvs', e, hsm, hg, hr⟩
  · unfold dictD at e; cases e
  · have e' := dictD_inj e; subst e'
    have hm := (hr.dictAt (prog := prog) (w := w) hg).dictOf
    have hzip := hr.zip
    refine wpAny_setItem_pairs (intKind_is prog w k t) hm (fun h' hm' hs' => ?_) (by rw [hzip.len]; exact Nat.le_trans hz (by decide))
    rw [stored_vset _ _ _ (by rw [hzip.keys]; exact hr.2.1)] at hm'
    have hge : ∃ oa, h'.get? a = some oa := by obtain ⟨o, _, _, e, _⟩ := hm'; exact ⟨o, e⟩
    have g : Go (fun b => b = a) s { s with heap := h', toks := s.toks + 1 } := Go.same rfl hs' hge.choose_spec
    have gS : Go (Sx S₀ Wt env ((y, a, dictD kvs) :: ω)) s { s with heap := h', toks := s.toks + 1 } := g.mono fun b q => .inr (.inr (.inr (.inr ⟨_, .head _, q.symm⟩)))
    have hv : VRow (Sx S₀ Wt env ((y, a, dictD kvs) :: ω)) h' (vset (zipv es kvs) k v) (dset kvs k d) := VRow.set (r.go gS) ⟨hzip.keys, hzip.reps.go gS⟩
    obtain ⟨es', m', hg', hr'⟩ := hv.ofDictOf hm'
    exact hQ _ (x.ownTurn g (.inr ⟨es', m', _, rfl, hsm, hg', hr'⟩))

theorem ST.setItem {y : Str} {p pos' pos : Pos} {i e : Expr} {kvs : List (Int × PyData)} {k : Int} {d : PyData} (he : EV prog w hb n A env ρ ((y, a, dictD kvs) :: ω) e d) (hi : EV prog w hb n A env ρ ((y, a, dictD kvs) :: ω) i (.int k)) (hz : kvs.length ≤ 1000000)
    (hd : (y == ("__debug__" : Str)) = false := by decide) (hn : (y == ("__classdict__" : Str)) = false := by decide) (hs : swapsWith e (some (.Subscript (.Name y p) i pos')) pos.line env = pure false := by rfl) :
    ST prog w hb n A env ρ ((y, a, dictD kvs) :: ω) (.Assign [.Subscript (.Name y p) i pos'] e pos) (.next ρ ((y, a, dictD (dset kvs k d)) :: ω)) := .mk fun s₀ S₀ Wt s Q E x hQ =>
  wpAny_Assign_Subscript (he.run s₀ S₀ Wt s _ E x fun v s₁ g₁ r₁ => own_load (x.keep g₁) (hi.run s₀ S₀ Wt s₁ _ E (x.keep g₁) fun u s₂ g₂ r₂ => by
    obtain ⟨t, rfl⟩ := r₂.intOf
    exact own_set ((x.keep g₁).keep g₂) (r₁.go0 g₂) hz fun s₃ o₃ => hQ _ s₃ ⟨rfl, o₃.after ((g₁.tr g₂).mono fun _ q => q.elim) fun _ q => .inl q⟩) hd hn) hs

/-- the own dictionary's row k grows by b -/
theorem ST.augItem {y : Str} {p pos' pos : Pos} {i e : Expr} {kvs : List (Int × PyData)} {k b c : Int} (hi : EV prog w hb n A env ρ ((y, a, dictD kvs) :: ω) i (.int k)) (he : EV prog w hb n A env ρ ((y, a, dictD kvs) :: ω) e (.int b)) (hg : dget kvs k = some (.int c)) (hz : kvs.length ≤ 1000000)
    (hd : (y == ("__debug__" : Str)) = false := by decide) (hn : (y == ("__classdict__" : Str)) = false := by decide) (hs : ∀ ov iv new, augStore i ov iv new = (do holding [new, ov, iv] (PySem.setItem ov iv new); release [new, ov, iv] []; pure .next) := by intros; rfl) :
    ST prog w hb n A env ρ ((y, a, dictD kvs) :: ω) (.AugAssign (.Subscript (.Name y p) i pos') .Add e pos) (.next ρ ((y, a, dictD (dset kvs k (.int (c + b)))) :: ω)) := .mk fun s₀ S₀ Wt s Q E x hQ =>
  wpAny_AugAssign_SubscriptAny (own_load x (hi.run s₀ S₀ Wt s _ E x fun u s₁ g₁ r₁ => by
    obtain ⟨t, rfl⟩ := r₁.intOf
    have x₁ := x.keep g₁
    obtain ⟨h1, h2, h3, h4, h5, h6⟩ := x₁.own _ (.head _)
    obtain ⟨a', vs, ha', hsm, hm, hr⟩ := (show RepR (Sx S₀ Wt env ((y, a, dictD kvs) :: ω)) s₁.heap (.ref a) (dictD kvs) from .inr ⟨a, rfl, h6⟩).at prog w
    cases ha'
    rcases hr.get k with ⟨q, _⟩ | ⟨d', v', q1, q2, q3⟩
    · rw [hg] at q; cases q
    · rw [hg] at q1; cases q1
      obtain ⟨t', rfl⟩ := q3.intOf
      refine wpAny_getItem_of (intKind_is prog w k t) hm.mapOf (by rw [valueAt_vget]; exact q2) ?_
      have g₂ : Go0 s₁ { s₁ with toks := s₁.toks + 1 } := Go.tok
      refine he.run s₀ S₀ Wt _ _ E (x₁.keep g₂) fun v s₃ g₃ r₃ => ?_
      obtain ⟨t'', rfl⟩ := r₃.intOf
      refine P.iadd_int ?_
      have g₄ : Go0 s₃ { s₃ with toks := s₃.toks + 1 } := Go.tok
      exact own_set (((x₁.keep g₂).keep g₃).keep g₄) (.int _ _) hz fun s₅ o₅ => hQ _ s₅ ⟨rfl, o₅.after ((((g₁.tr g₂).tr g₃).tr g₄).mono fun _ q => q.elim) fun _ q => .inl q⟩) hd hn) hs

theorem ST.append {y : Str} {p apos cpos pos : Pos} {e : Expr} {xs : List PyData} {d : PyData} (he : EVs prog w hb n A env ρ ((y, a, .list xs) :: ω) [e] [d]) (hz : xs.length ≤ 1000000)
    (hd : (y == ("__debug__" : Str)) = false := by decide) (hn : (y == ("__classdict__" : Str)) = false := by decide)
    (hbase : attributeBase (.Name y p) "append" env (eval (.Name y p) env) = eval (.Name y p) env := by rfl) (hfew : ((backTo cpos (starEach [e] env)).all (fun x => !x.1) && (backToKw cpos (keywordEach [] env)).all (fun x => x.1.isSome) && decide ([e].length + ([] : List Keyword).length + (if ([] : List Keyword).isEmpty then 0 else 1) < 30)) = true := by exact few_star rfl rfl)
    (hline : (apos.endLine == cpos.line) = true := by rfl) (hse : starEach [e] env = (false, eval e env) :: starEach [] env := by exact star_cons rfl) (hp : (backTo cpos (starEach [e] env)).any (·.1) = false := by exact any_star rfl)
    (hi : interactive env = false := by rfl) (hs : swapsWith (.Call (.Attribute (.Name y p) "append" apos) [e] [] cpos) none pos.line env = pure false := by rfl) :
    ST prog w hb n A env ρ ((y, a, .list xs) :: ω) (.Expr (.Call (.Attribute (.Name y p) "append" apos) [e] [] cpos) pos) (.next ρ ((y, a, .list (xs ++ [d])) :: ω)) := .mk fun s₀ S₀ Wt s Q E x hQ =>
  wpAny_Expr (by
    obtain ⟨h1, h2, h3, h4, h5, h6⟩ := x.own _ (.head _)
    rcases h6 with ⟨vs, m, xs', e', hg, hr⟩ | ⟨_, _, _, e', _⟩
    · cases e'
      refine wpAny_Call_method (T := "list") (id := "list.append") hbase hfew hline F.plainAttrs_list F.slot_list_append F.type_list_append (own_load x ⟨⟨_, hg, rfl⟩, fun a' e => by cases e; exact ⟨_, hg, rfl⟩, PySem.Calls.callWith_builtin hp ?_⟩ hd hn)
      have hss := he.run s₀ S₀ Wt s cpos (fun us s₁ => wpAny (model prog w) A (call (.builtin "list.append") ([.ref a] ++ us) []) (fun v s' => match v with | .ref _ => False | _ => Q .next s') E s₁) E x fun us s₁ g₁ r₁ => ?_
      · rw [hse] at hss ⊢
        exact PySem.Calls.evalArgs_plain hss
      · obtain ⟨hl, hr₁⟩ := r₁
        obtain ⟨u, rfl⟩ := lenA1 hl
        refine wpAny_list_append_plain ⟨m, g₁.k0 _ _ hg⟩ (fun h' hp' hs' => ?_) (by rw [List.size_toArray, hr.1]; exact Nat.le_trans hz (by decide))
        obtain ⟨m', hg'⟩ := hp'
        have g : Go (fun b => b = a) s₁ { s₁ with heap := h', toks := s₁.toks } := Go.same rfl hs' hg'
        have gS : Go (Sx S₀ Wt env ((y, a, .list xs) :: ω)) s₁ { s₁ with heap := h', toks := s₁.toks } := g.mono fun b q => .inr (.inr (.inr (.inr ⟨_, .head _, q.symm⟩)))
        have hr₂ : Reps (Sx S₀ Wt env ((y, a, .list xs) :: ω)) h' (vs ++ [u]) (xs ++ [d]) := ((hr.go0 g₁).snoc (hr₁ 0 u d rfl rfl)).go gS
        have o := (x.keep g₁).ownTurn g (.inl ⟨vs ++ [u], m', _, rfl, by simpa using hg', hr₂⟩)
        exact hQ _ _ ⟨rfl, o.after (g₁.mono fun _ q => q.elim) fun _ q => .inl q⟩
    · unfold dictD at e'; cases e') hi hs
end
end Mine

namespace Mine
open PySem PySem.Calls PyProof.Rows

/-- the parts of the text's top, by their place -/
noncomputable def nthS : List Stmt → Nat → Stmt
  | x :: _, 0 => x
  | _ :: r, n + 1 => nthS r n
  | [], _ => .Pass ⟨0, 0, 0, 0⟩
noncomputable def fnName : Stmt → Str
  | .FunctionDef name _ _ _ _ _ _ _ _ _ => name
  | _ => ""
noncomputable def fnArgs : Stmt → Arguments
  | .FunctionDef _ args _ _ _ _ _ _ _ _ => args
  | _ => { posonlyargs := [], args := [], vararg := none, kwonlyargs := [], kw_defaults := [], kwarg := none, defaults := [] }
noncomputable def fnBody : Stmt → List Stmt
  | .FunctionDef _ _ body _ _ _ _ _ _ _ => body
  | _ => []
noncomputable def fnScope : Stmt → Scope
  | .FunctionDef _ _ _ _ _ _ scope _ _ _ => scope
  | _ => { kind := .function, names := [], isGenerator := false, isCoroutine := false }
noncomputable def topS (k : Nat) : Stmt := nthS PySem.Challenge.pw_zd0010_01.main.body k
noncomputable def defOf (k : Nat) (pm cd : Value) : FuncData := plainDef (fnName (topS k)) (fnArgs (topS k)) (fnBody (topS k)) (fnScope (topS k)) pm cd

/-- the def of place k stands at a -/
structure DefAt (hb : Heap) (a : Addr) (k : Nat) (pm cd : Value) : Prop where
  get : hb.get? a = some { cls := .type "function", data := .func (defOf k pm cd) }
  code : hb.CodeRec cd (fnName (topS k))

theorem bindL_keep {kf : Str → Option NameKind} {y : Str} {v : Value} : ∀ (r : List (Str × Value)) (m : Str → Option Value), y ∉ r.map (·.1) → m y = some v → bindL kf r m y = some v
  | [], m, _, h => h
  | (z, u) :: r, m, hni, h => by
    rw [List.map_cons, List.mem_cons, not_or] at hni
    unfold bindL
    refine bindL_keep r _ hni.2 ?_
    split
    · first | exact h | (have hz : ¬ y = z := hni.1; simp only [hz, if_false]; exact h)
    · first | exact h | (have hz : ¬ y = z := hni.1; simp only [hz, if_false]; exact h)
theorem bindL_at {kf : Str → Option NameKind} : ∀ {binds : List (Str × Value)} {m : Str → Option Value} {y : Str} {v : Value}, (binds.map (·.1)).Nodup → (y, v) ∈ binds → kf y = some .local → bindL kf binds m y = some v
  | (z, u) :: r, m, y, v, hn, hm, hk => by
    rw [List.map_cons, List.nodup_cons] at hn
    unfold bindL
    rcases List.mem_cons.mp hm with e | hm
    · cases e
      rw [if_pos hk]
      exact bindL_keep r _ hn.1 (by simp)
    · exact bindL_at hn.2 hm hk
theorem bindC_keep {kf : Str → Option NameKind} {y : Str} {v : Value} : ∀ (r : List (Str × Value)) (m : Str → Option Value), y ∉ r.map (·.1) → m y = some v → bindC kf r m y = some v
  | [], m, _, h => h
  | (z, u) :: r, m, hni, h => by
    rw [List.map_cons, List.mem_cons, not_or] at hni
    unfold bindC
    refine bindC_keep r _ hni.2 ?_
    split
    · first | exact h | (have hz : ¬ y = z := hni.1; simp only [hz, if_false]; exact h)
    · first | exact h | (have hz : ¬ y = z := hni.1; simp only [hz, if_false]; exact h)
theorem bindC_at {kf : Str → Option NameKind} : ∀ {binds : List (Str × Value)} {m : Str → Option Value} {y : Str} {v : Value}, (binds.map (·.1)).Nodup → (y, v) ∈ binds → kf y = some .cell → bindC kf binds m y = some v
  | (z, u) :: r, m, y, v, hn, hm, hk => by
    rw [List.map_cons, List.nodup_cons] at hn
    unfold bindC
    rcases List.mem_cons.mp hm with e | hm
    · cases e
      rw [if_neg (by rw [hk]; decide)]
      exact bindC_keep r _ hn.1 (by simp)
    · exact bindC_at hn.2 hm hk
theorem cellsFrom_names : ∀ {names : List (Str × NameKind)} {n : Nat} {acc : List (Str × Addr)}, ((names.map (·.1)) ++ acc.map (·.1)).Nodup → ((cellsFrom n names acc).map (·.1)).Nodup
  | [], n, acc, h => by simpa [cellsFrom] using h
  | (m, k) :: r, n, acc, h => by
    unfold cellsFrom
    have h' := h
    rw [List.map_cons, List.cons_append, List.nodup_cons] at h'
    split
    · refine cellsFrom_names ?_
      rw [List.map_cons]
      rw [List.nodup_append] at h' ⊢
      obtain ⟨hm, h1, h2, h3⟩ := h'
      rw [List.mem_append, not_or] at hm
      refine ⟨h1, List.nodup_cons.mpr ⟨hm.2, h2⟩, fun a ha b hb' => ?_⟩
      rcases List.mem_cons.mp hb' with rfl | hb'
      · exact fun q => hm.1 (q ▸ ha)
      · exact h3 a ha b hb'
    · exact cellsFrom_names h'.2
theorem cellsFrom_acc : ∀ {names : List (Str × NameKind)} {n : Nat} {acc : List (Str × Addr)} {x : Str × Addr}, x ∈ acc → x ∈ cellsFrom n names acc
  | [], _, _, _, h => h
  | (m, k) :: r, n, acc, x, h => by
    unfold cellsFrom
    split
    · exact cellsFrom_acc (.tail _ h)
    · exact cellsFrom_acc h
theorem cellsFrom_has : ∀ {names : List (Str × NameKind)} {n : Nat} {acc : List (Str × Addr)} {y : Str}, (y, NameKind.cell) ∈ names → ∃ c, (y, c) ∈ cellsFrom n names acc
  | (m, k) :: r, n, acc, y, h => by
    unfold cellsFrom
    rcases List.mem_cons.mp h with e | h
    · cases e; rw [if_pos (by rfl)]; exact ⟨n, cellsFrom_acc (.head _)⟩
    · split <;> exact cellsFrom_has h
theorem cellsFrom_lookup {names : List (Str × NameKind)} {n : Nat} {y : Str} (hn : (names.map (·.1)).Nodup) (h : names.lookup y = some .cell) : ∃ c, (cellsFrom n names []).lookup y = some c := by
  obtain ⟨c, hc⟩ := cellsFrom_has (n := n) (acc := []) (mem_of_lookup h)
  exact ⟨c, lookup_of_nodup (cellsFrom_names (by simpa using hn)) hc⟩

theorem zip_lookup : ∀ {ps : List Str} {vs : List Value} {ds : List PyData} {y : Str} {d : PyData}, vs.length = ds.length → (ps.zip ds).lookup y = some d → ∃ (i : Nat) (v : Value), (y, v) ∈ ps.zip vs ∧ vs[i]? = some v ∧ ds[i]? = some d
  | [], _, _, _, _, _, h => by simp at h
  | _ :: _, [], [], _, _, _, h => by simp at h
  | p :: ps, v :: vs, e :: ds, y, d, hl, h => by
    rw [List.zip_cons_cons, List.lookup_cons] at h
    cases hb' : y == p with
    | true => rw [hb'] at h; cases h; exact ⟨0, v, by rw [beq_iff_eq.mp hb']; simp, rfl, rfl⟩
    | false =>
      rw [hb'] at h
      obtain ⟨i, u, h1, h2, h3⟩ := zip_lookup (by simpa using hl) h
      exact ⟨i + 1, u, by rw [List.zip_cons_cons]; exact .tail _ h1, by simpa using h2, by simpa using h3⟩
  | _ :: _, [], _ :: _, _, _, hl, _ => by simp at hl
  | _ :: _, _ :: _, [], _, _, hl, _ => by simp at hl

/-- a scope that a call can lay -/
structure FnScope (scope : Scope) (ps : List Str) : Prop where
  kind : scope.kind = .function
  co : scope.isCoroutine = false
  nodup : (scope.names.map (·.1)).Nodup
  pnodup : ps.Nodup
  ps : ∀ y ∈ ps, scope.names.lookup y = some .local ∨ scope.names.lookup y = some .cell

section
variable {prog : Program} {w : World} {hb : Heap} {n : Nat} {A : Around}

/-- the frame of a call, laid -/
theorem Cx.enter (T : TopF hb) {fd : FuncData} {f : Addr} {ps : List Str} {S : ASet} {s s₁ : Shared} {vs : List Value} {ds : List PyData} (hs : FnScope fd.scope ps) (hgl : fd.globals = mainGlobals) (hbl : fd.builtins = builtinsNs) (room : Room (n + 1) A) (base : ∀ b o, hb.get? b = some o → s.heap.get? b = some o) (bd : ∀ b, S b → ∃ o, s.heap.get? b = some o) (r : Reps S s.heap vs ds) (hlen : ps.length = vs.length)
    (x : InCallC s (callEnvC fd s.heap.objs.size f).locals (bindL (callEnvC fd s.heap.objs.size f).kindOf (ps.zip vs) fun _ => none) (callEnvC fd s.heap.objs.size f).cells (bindC (callEnvC fd s.heap.objs.size f).kindOf (ps.zip vs) fun _ => none) s₁) :
    Cx hb n (A.deeper (callEnvC fd s.heap.objs.size f)) (callEnvC fd s.heap.objs.size f) s S (fun _ => False) (ps.zip ds) [] s₁ := by
  obtain ⟨h₁, tk, rfl, kp⟩ := x.done
  have g : Go0 s { s with heap := h₁, toks := tk } := Go.heap0 kp
  have no : ∀ b, s.heap.objs.size ≤ b → s.heap.get? b = none := fun b hb' => by
    cases e : s.heap.get? b with
    | none => rfl
    | some o => exact absurd (Heap.lt_size e) (Nat.not_lt.mpr hb')
  have hcn : ((cellsFrom (s.heap.objs.size + 1) fd.scope.names []).map (·.1)).Nodup := cellsFrom_names (by simpa using hs.nodup)
  have hnm : ((ps.zip vs).map (·.1)).Nodup := by rw [List.map_fst_zip (by omega)]; exact hs.pnodup
  have sx : ∀ b, Sx S (fun _ => False) (callEnvC fd s.heap.objs.size f) [] b → S b ∨ s.heap.get? b = none := fun b q => by
    rcases q with q | q | q | ⟨y, q⟩ | ⟨p, hp, _⟩
    · exact .inl q
    · exact q.elim
    · exact .inr (no b (Nat.le_of_eq q.symm))
    · exact .inr (no b (Nat.le_of_lt (x.above y b q)))
    · cases hp
  refine ⟨base, g, room.deeper, hs.kind, hgl, hbl, bd, fun b q => q.elim, ⟨_, x.toInCall.ns⟩, no _ (Nat.le_refl _), fun y c hm => ⟨⟨_, x.cell y c (lookup_of_nodup hcn hm)⟩, no c (Nat.le_of_lt (x.above y c hm)), Nat.ne_of_gt (x.above y c hm)⟩, x.apart, fun y d e => ?_, (fun p hp => nomatch hp), List.nodup_nil⟩
  obtain ⟨i, v, h1, h2, h3⟩ := zip_lookup r.1 e
  refine ⟨v, ?_, (r.2 i v d h2 h3).shut (g.mono fun _ q => q.elim) sx⟩
  have hy : y ∈ ps := (List.of_mem_zip h1).1
  rcases hs.ps y hy with hk | hk
  · exact .inl ⟨hk, _, x.toInCall.ns, bindL_at hnm h1 hk⟩
  · obtain ⟨c, hc⟩ := cellsFrom_lookup (n := s.heap.objs.size + 1) hs.nodup hk
    refine .inr ⟨.inl hk, c, hc, ?_⟩
    have := x.cell y c hc
    rw [bindC_at hnm h1 hk] at this
    exact this

theorem Fn.of (T : TopF hb) {f : Addr} {k : Nat} {pm cd : Value} {ps : List Str} {g : List PyData → PyData → Prop} (D : DefAt hb f k pm cd) (hs : FnScope (fnScope (topS k)) ps) (hgen : (fnScope (topS k)).isGenerator = false)
    (hbind : ∀ vs : List Value, ps.length = vs.length → bindArgs (defOf k pm cd) ⟨vs, []⟩ = pure (ps.zip vs))
    (h : ∀ A L ds d, g ds d → ps.length = ds.length → EX prog w hb n A (callEnvC (defOf k pm cd) L f) (ps.zip ds) [] (fnBody (topS k)) (.ret d)) (hg : ∀ ds d, g ds d → ps.length = ds.length) : Fn prog w hb (n + 1) f g := .mk fun A S s vs ds d Q E room base bd hgd r hQ => by
  have hlen : ps.length = vs.length := by rw [hg ds d hgd, r.1]
  refine wpAny_call (codeAny_call_cells (fd := defOf k pm cd) (body := fnBody (topS k)) (binds := ps.zip vs) room.d (base _ _ D.get) rfl (T.lim.keeps base) (D.code.keeps base) rfl (hbind vs hlen) rfl (fun x hx => ?_) (fun s₁ x => ?_) hs.co hgen hs.kind)
  · have hy : x.1 ∈ ps := (List.of_mem_zip hx).1
    rcases hs.ps x.1 hy with hk | hk
    · exact .inl hk
    · obtain ⟨c, hc⟩ := cellsFrom_lookup (n := s.heap.objs.size + 1) hs.nodup hk
      exact .inr ⟨hk, by rw [show (defOf k pm cd).scope = fnScope (topS k) from rfl, hc]; rfl⟩
  · have c := Cx.enter (fd := defOf k pm cd) T hs rfl rfl room base bd r hlen x
    refine (h _ _ ds d hgd (hg ds d hgd)).run s S (fun _ => False) s₁ _ _ c fun fl s' o => ?_
    obtain ⟨v, rfl, g', r'⟩ := o
    exact hQ v s' g' r'
end
end Mine

namespace Mine
open PySem PySem.Calls PyProof.Rows

theorem readsAll_of {h : Heap} : ∀ {vs : List Value} {xs : List PyData}, vs.length = xs.length → (∀ (i : Nat) v d, vs[i]? = some v → xs[i]? = some d → ∃ as, Reads h v d as) → ∃ as, ReadsAll h vs xs as
  | [], [], _, _ => ⟨[], .nil⟩
  | [], _ :: _, hl, _ => by simp at hl
  | _ :: _, [], hl, _ => by simp at hl
  | v :: vs, d :: xs, hl, hr => by
    obtain ⟨as, h1⟩ := hr 0 v d rfl rfl
    obtain ⟨bs, h2⟩ := readsAll_of (by simpa using hl) fun i v d a b => hr (i + 1) v d (by simpa using a) (by simpa using b)
    exact ⟨_, .cons h1 h2⟩
theorem Rep.reads {S : ASet} {h : Heap} {v : Value} {d : PyData} (x : Rep S h v d) : ∃ as, Reads h v d as := by
  induction x with
  | none => exact ⟨_, .none⟩
  | bool b => exact ⟨_, .bool b⟩
  | int i t => exact ⟨_, .int i t⟩
  | str x t => exact ⟨_, .str x t⟩
  | list ha hg hl _ ih =>
    obtain ⟨as, r⟩ := readsAll_of hl ih
    exact ⟨_, .list hg rfl rfl (by simpa using r)⟩
  | tuple ha hg hl _ ih =>
    obtain ⟨as, r⟩ := readsAll_of hl ih
    exact ⟨_, .tuple hg rfl rfl (by simpa using r)⟩
  | @dict a es n kvs ks ha hs hg hl hm hn hk _ ih =>
    obtain ⟨as, r⟩ := readsAll_of (h := h) (vs := es.map (·.key)) (xs := kvs.map (·.1)) (by simp [hl]) fun i v d a b => by
      rw [List.getElem?_map] at a
      rw [hm, List.getElem?_map] at b
      cases he : es[i]? with
      | none => rw [he] at a; cases a
      | some e =>
        cases hq : ks[i]? with
        | none => rw [hq] at b; cases b
        | some k =>
          rw [he] at a; rw [hq] at b
          cases a; cases b
          obtain ⟨_, t, ht⟩ := hk i e k he hq
          show ∃ as, Reads h e.key (.int k) as
          rw [ht]; exact ⟨_, .int k t⟩
    obtain ⟨bs, r'⟩ := readsAll_of (h := h) (vs := es.map (·.val)) (xs := kvs.map (·.2)) (by simp [hl]) fun i v d a b => by
      rw [List.getElem?_map] at a b
      cases he : es[i]? with
      | none => rw [he] at a; cases a
      | some e =>
        cases hq : kvs[i]? with
        | none => rw [hq] at b; cases b
        | some kv =>
          rw [he] at a; rw [hq] at b
          cases a; cases b
          exact ih i e kv he hq
    exact ⟨_, .dict hg rfl rfl (by simpa using r) (by simpa using r')⟩

theorem OpC.eqData {a b : PyData} (ha : a.canLay0 = true) (hb : b.canLay0 = true) (hd : min a.depth b.depth ≤ 64) : OpC .Eq a b (PyData.eqv a b) := .mk fun _ _ n A _ s u v Q E room ru rv hQ => by
  obtain ⟨as, r⟩ := ru.reads
  obtain ⟨bs, r'⟩ := rv.reads
  have := room.units
  exact SeqAt.compareEq_reads r r' ha hb (by omega) (hQ _ .refl)
theorem OpC.neData {a b : PyData} (ha : a.canLay0 = true) (hb : b.canLay0 = true) (hd : min a.depth b.depth ≤ 64) : OpC .NotEq a b (!PyData.eqv a b) := .mk fun _ _ n A _ s u v Q E room ru rv hQ => by
  obtain ⟨as, r⟩ := ru.reads
  obtain ⟨bs, r'⟩ := rv.reads
  have := room.units
  exact SeqAt.compareNe_reads r r' ha hb (by omega) (hQ _ .refl)
theorem OpC.inTuple {a : PyData} {xs : List PyData} (ha : a.canLay0 = true) (hx : PyData.canLayAll0 xs = true) (hd : min (PyData.depthAll xs) a.depth ≤ 64) : OpC .In a (.tuple xs) (xs.any fun y => PyData.eqv y a) := .mk fun _ _ n A _ s u v Q E room ru rv hQ => by
  obtain ⟨as, r⟩ := ru.reads
  obtain ⟨bs, r'⟩ := rv.reads
  have := room.units
  exact SeqAt.in_tuple_reads r' r hx ha (by omega) (hQ _ .refl)

theorem lay_refl {a : PyData} (ha : a.canLay0 = true) : PyData.eqv a a = true := SeqAt.eqv_refl a ha

noncomputable def getI (ns : List Int) (i : Nat) : Int := ns.getD i 0
theorem preSum_take (ns : List Int) : ∀ j, j ≤ ns.length → preSum (getI ns) j = (ns.take j).sum
  | 0, _ => by simp [preSum]
  | j + 1, h => by
    have hj : j < ns.length := h
    rw [preSum, preSum_take ns j (by omega), List.take_add_one, List.sum_append]
    simp [getI, List.getElem?_eq_getElem hj, List.getD]
theorem sum_bound {ns : List Int} {B : Int} (hB : 0 ≤ B) (h : ∀ x ∈ ns, 0 ≤ x ∧ x ≤ B) : 0 ≤ ns.sum ∧ ns.sum ≤ ns.length * B := by
  induction ns with
  | nil => simp
  | cons x r ih =>
    have h1 := h x (.head _)
    have h2 := ih fun y hy => h y (.tail _ hy)
    rw [List.sum_cons, List.length_cons]
    have : ((r.length + 1 : Nat) : Int) * B = (r.length : Int) * B + B := by push_cast; rw [Int.add_mul, Int.one_mul]
    rw [this]
    omega
theorem sum_fits {ns : List Int} (h : ∀ x ∈ ns, 0 ≤ x ∧ x ≤ 1000000) (hl : ns.length ≤ 1000000) : ∀ j, j < ns.length → InLong (getI ns j) ∧ InLong (preSum (getI ns) (j + 1)) := fun j hj => by
  have hm : getI ns j ∈ ns := by unfold getI; rw [List.getD_eq_getElem?_getD, List.getElem?_eq_getElem hj]; exact List.getElem_mem hj
  have h1 := h _ hm
  have h2 := sum_bound (ns := ns.take (j + 1)) (B := 1000000) (by decide) fun x hx => h x (List.mem_of_mem_take hx)
  rw [preSum_take ns _ (by omega)]
  have h3 : (ns.take (j + 1)).length ≤ 1000000 := by rw [List.length_take]; omega
  refine ⟨⟨by omega, by omega⟩, ⟨by omega, ?_⟩⟩
  have : ((ns.take (j + 1)).length : Int) * 1000000 ≤ 1000000 * 1000000 := by omega
  omega

theorem BOp.sum {ns : List Int} (h : ∀ x ∈ ns, 0 ≤ x ∧ x ≤ 1000000) (hl : ns.length ≤ 1000000) : BOp "sum" [.list (ns.map .int)] (.int ns.sum) := .mk fun prog w _ A _ s vs Q E room _ r hQ => by
  obtain ⟨hlen, hr⟩ := r
  obtain ⟨v, rfl⟩ := lenA1 hlen
  obtain ⟨a, us, m, rfl, hS, hg, h1⟩ := (hr 0 v _ rfl rfl).listOf
  refine call_sum_walk (wpAny_pyIter_list (isList_of hg) ?_)
  have g₂ : Go0 s { s with heap := s.heap.push { cls := .type "list_iterator", data := .fields #[.ref a, .int 0 0] } } := Go.push
  have hne : a ≠ s.heap.objs.size := fun q => by rw [q, fresh_size] at hg; cases hg
  refine ⟨_, _, _, _, _, _, getI ns, rfl, Walks.list (prog := prog) (w := w) (A := A.in1) room.handled s.heap.objs.size a hne us.toArray, ⟨⟨_, Heap.get?_push_size _ rfl, rfl, rfl⟩, isList_of (g₂.k0 _ _ hg)⟩, fun b hb' => ?_, fun i v hv => ?_, fun j hj => sum_fits h hl j (by have := h1.1; simp at this hj; omega), fun h' tk t' kp => ?_⟩
  · simp only [List.mem_cons, List.not_mem_nil, or_false] at hb'
    have : ({ s with heap := s.heap.push { cls := .type "list_iterator", data := .fields #[.ref a, .int 0 0] } } : Shared).heap.objs.size = s.heap.objs.size + 1 := Heap.size_push ..
    rw [this]
    rcases hb' with rfl | rfl
    · exact Nat.lt_succ_self _
    · exact Nat.lt_succ_of_lt (Heap.lt_size hg)
  · have hv' : us[i]? = some v := by simpa using hv
    have hi : i < ns.length := by have := (List.getElem?_eq_some_iff.mp hv').1; have := h1.1; simp at this; omega
    obtain ⟨t, rfl⟩ := (h1.2 i v (.int (getI ns i)) hv' (by rw [List.getElem?_map, List.getElem?_eq_getElem hi]; simp [getI, List.getElem?_eq_getElem hi])).intOf
    exact ⟨t, rfl⟩
  · have e : preSum (getI ns) us.toArray.size = ns.sum := by
      have := h1.1
      rw [List.size_toArray, preSum_take ns _ (by simp at this; omega), List.take_of_length_le (by simp at this; omega)]
    rw [e]
    refine hQ _ _ ⟨fun b o _ q => kp b o (fun hm => ?_) (g₂.k0 b o q), fun b o q => ⟨o, kp b o (fun hm => ?_) (g₂.k0 b o q)⟩, fun _ _ e => e, id, rfl, rfl⟩ (.int _ _) <;>
    · simp only [List.mem_cons, List.not_mem_nil, or_false] at hm
      rw [hm, fresh_size] at q; cases q

section
variable {prog : Program} {w : World} {hb : Heap} {n : Nat} {A : Around} {env : Env} {ρ ρ' : Rho} {ω ω' : Omega} {s₀ s s' s'' : Shared} {S₀ Wt : ASet}

/-- the values of a dictionary, added up -/
theorem EV.sumValues (T : TopF hb) {f : Str} {o : Expr} {fp apos cpos pos : Pos} {kvs : List (Int × Int)} (hk : env.kindOf f = some .globalImplicit) (hg : Glob T f (.builtin "sum")) (h : EV prog w hb n A env ρ ω o (dictD (kvs.map fun p => (p.1, .int p.2)))) (hs : ∀ p ∈ kvs, 0 ≤ p.2 ∧ p.2 ≤ 1000000) (hl : kvs.length ≤ 1000000)
    (hd : (f == ("__debug__" : Str)) = false := by decide) (hbase : attributeBase o "values" env (eval o env) = eval o env := by exact base_plain rfl) (hline : (apos.endLine == cpos.line) = true := by rfl)
    (he : starEach [.Call (.Attribute o "values" apos) [] [] cpos] env = [(false, eval (.Call (.Attribute o "values" apos) [] [] cpos) env)] := by exact star_cons rfl) :
    EV prog w hb n A env ρ ω (.Call (.Name f fp) [.Call (.Attribute o "values" apos) [] [] cpos] [] pos) (.int (kvs.map (·.2)).sum) := .mk fun s₀ S₀ Wt s Q E x hQ => by
  show wpAny _ A (eval (.Name f fp) env >>= fun fv => callWith pos fv [] (backTo pos (starEach [.Call (.Attribute o "values" apos) [] [] cpos] env)) (backToKw pos (keywordEach [] env))) Q E s
  refine wpAny_bind (glob_name T x hk hg ?_ hd)
  refine PyProof.Rows.callWith_builtin1 ?_ (by rw [he]; rfl) (by rfl)
  rw [he]
  show wpAny _ A (spliced ((false, eval (.Call (.Attribute o "values" apos) [] [] cpos) env) :: [])) _ E s
  refine PySem.Calls.spliced_cons (wpAny_Call_method (T := "dict") (id := "dict.values") hbase rfl hline F.plainAttrs_dict F.slot_dict_values F.type_dict_values (h.run s₀ S₀ Wt s _ E x fun v s₁ g r => ?_))
  obtain ⟨a, es, m, rfl, hS, hsm, hg', hr⟩ := r.dictOf
  have hd' : ∀ h' : Heap, h'.get? a = some { cls := .type "dict", data := .dict es.toArray m } → h'.DictAt (intKind prog w) a (zipv es (kvs.map fun p => (p.1, .int p.2))) m := fun h' e => hr.dictAt (S := Sx S₀ Wt env ω) (h := s₁.heap) hg' |>.at' fun o e' => by rw [hg'] at e'; cases e'; exact e
  refine ⟨⟨_, hg', rfl⟩, fun a' e => by cases e; exact ⟨_, hg', rfl⟩, ?_⟩
  refine method_meetsIn F.slot_dict_values F.entry_dict_values rfl (PySem.evalArgs_none ⟨rfl, ⟨_, hg', rfl⟩, F.args_dict_values_1 _, _, meets_dict_values (intKind prog w) a hsm, ⟨_, (hd' _ hg').dictOf⟩, PySem.Calls.spliced_nil ?_⟩)
  generalize hs₂ : ({ s₁ with heap := s₁.heap.push { cls := .type "dict_values", data := .fields #[.ref a] } } : Shared) = s₂
  have g₂ : Go0 s₁ s₂ := hs₂ ▸ Go.push
  have hv : s₂.heap.IsValuesView s₁.heap.objs.size a := by rw [← hs₂]; exact ⟨_, Heap.get?_push_size _ rfl, rfl, rfl⟩
  refine call_sum_walk (wpAny_pyIter_values hv (hd' _ (g₂.k0 _ _ hg')) ?_)
  generalize hs₃ : ({ s₂ with heap := s₂.heap.push { cls := .type "dict_valueiterator", data := .fields #[.ref a, .int 0 0, .int (zipv es (kvs.map fun p => (p.1, PyData.int p.2))).length 0, .int m 0] } } : Shared) = s₃
  have g₃ : Go0 s₂ s₃ := hs₃ ▸ Go.push
  have hI : s₃.heap.IsValIter s₂.heap.objs.size a 0 (zipv es (kvs.map fun p => (p.1, PyData.int p.2))).length m := by rw [← hs₃]; exact ⟨_, Heap.get?_push_size _ rfl, rfl, rfl⟩
  have no : s₂.heap.get? s₂.heap.objs.size = none := fresh_size _
  have hne : a ≠ s₂.heap.objs.size := fun q => by have := g₂.k0 _ _ hg'; rw [q, no] at this; cases this
  have hlen : (zipv es (kvs.map fun p => (p.1, PyData.int p.2))).length = kvs.length := by rw [hr.zip.len]; simp
  refine ⟨_, _, _, _, _, _, getI (kvs.map (·.2)), rfl, Walks.dictValues (prog := prog) (w := w) (knd := intKind prog w) (A := A.in1) x.room.handled s₂.heap.objs.size a hne _ m, ⟨hI, hd' _ (g₃.k0 _ _ (g₂.k0 _ _ hg'))⟩, fun b hb' => ?_, fun i v hv => ?_, fun j hj => sum_fits (fun y hy => ?_) (by simpa using hl) j (by rw [hlen] at hj; simpa using hj), fun h' tk t' kp => ?_⟩
  · simp only [List.mem_cons, List.not_mem_nil, or_false] at hb'
    rcases hb' with rfl | rfl
    · obtain ⟨o, e, _⟩ := hI; exact Heap.lt_size e
    · exact Heap.lt_size (g₃.k0 _ _ (g₂.k0 _ _ hg'))
  · obtain ⟨k, hk'⟩ := hv
    have hi : i < kvs.length := by have := (List.getElem?_eq_some_iff.mp hk').1; omega
    obtain ⟨v', hv', rv⟩ := hr.zip.at (i := i) (k := kvs[i].1) (d := .int kvs[i].2) (by rw [List.getElem?_map, List.getElem?_eq_getElem hi]; rfl)
    rw [hk'] at hv'; cases hv'
    obtain ⟨t, rfl⟩ := rv.intOf
    exact ⟨t, by simp [getI, List.getElem?_eq_getElem hi]⟩
  · obtain ⟨p, hp, rfl⟩ := List.mem_map.mp hy
    exact hs p hp
  · have e : preSum (getI (kvs.map (·.2))) (zipv es (kvs.map fun p => (p.1, PyData.int p.2))).length = (kvs.map (·.2)).sum := by
      rw [hlen, preSum_take _ _ (by simp), List.take_of_length_le (by simp)]
    rw [e]
    have gg := (g.tr g₂).tr g₃
    refine hQ _ _ ⟨fun b o _ q => kp b o (fun hm => ?_) (gg.k0 b o q), fun b o q => ⟨o, kp b o (fun hm => ?_) (gg.k0 b o q)⟩, gg.gens, gg.bare, gg.drawn, gg.os⟩ (.int _ _) <;>
    · simp only [List.mem_cons, List.not_mem_nil, or_false] at hm
      have := (g.tr g₂).k0 _ _ q
      rw [hm, no] at this; cases this

/-- isinstance of an int, asked for a tuple -/
theorem EB.isTuple (T : TopF hb) {e : Expr} {fp tp pos : Pos} {i : Int} (hk : env.kindOf "isinstance" = some .globalImplicit) (hk' : env.kindOf "tuple" = some .globalImplicit) (hg : Glob T "isinstance" (.builtin "isinstance")) (hg' : Glob T "tuple" (.type "tuple")) (h : EV prog w hb n A env ρ ω e (.int i))
    (he : starEach [e, .Name "tuple" tp] env = [(false, eval e env), (false, eval (.Name "tuple" tp) env)] := by exact star_cons rfl) : EB prog w hb n A env ρ ω (.Call (.Name "isinstance" fp) [e, .Name "tuple" tp] [] pos) false := .mk fun s₀ S₀ Wt s Q E x hQ => by
  refine wpAny_isTrue_value (whole := eval (.Call (.Name "isinstance" fp) [e, .Name "tuple" tp] [] pos) env) ?_ (by rfl)
  show wpAny _ A (eval (.Name "isinstance" fp) env >>= fun fv => callWith pos fv [] (backTo pos (starEach [e, .Name "tuple" tp] env)) (backToKw pos (keywordEach [] env))) _ E s
  refine wpAny_bind (glob_name T x hk hg ?_ (by decide))
  refine PyProof.Rows.callWith_builtin1 ?_ (by rw [he]; rfl) (by rfl)
  rw [he]
  show wpAny _ A (spliced ((false, eval e env) :: (false, eval (.Name "tuple" tp) env) :: [])) _ E s
  refine PySem.Calls.spliced_cons (h.run s₀ S₀ Wt s _ E x fun v s₁ g r => PySem.Calls.spliced_cons (glob_name T (x.keep g) hk' hg' (PySem.Calls.spliced_nil ?_) (by decide)))
  obtain ⟨t, rfl⟩ := r.intOf
  exact IsiPair.int_tuple (wpAny_truthy_bool (hQ _ (g.tr Go.tok)))
end
end Mine

namespace Mine
open PySem PySem.Calls PyProof.Rows
open Builtin Builtin.Str

theorem strs_of {S : ASet} {h : Heap} : ∀ {vs : List Value} {xs : List Str}, Reps S h vs (xs.map .str) → ∃ l : List (Str × Tok), vs = strValues l ∧ l.map (·.1) = xs
  | [], [], _ => ⟨[], rfl, rfl⟩
  | [], _ :: _, r => absurd r.1 (by simp)
  | _ :: _, [], r => absurd r.1 (by simp)
  | v :: vs, x :: xs, r => by
    obtain ⟨t, rfl⟩ := (Reps.head (by simpa using r) : Rep S h v (.str x)).strOf
    obtain ⟨l, rfl, h2⟩ := strs_of (Reps.tail (by simpa using r) : Reps S h vs (xs.map .str))
    exact ⟨(x, t) :: l, rfl, by simp [h2]⟩
theorem strs_reps {S : ASet} {h : Heap} : ∀ (l : List (Str × Tok)), Reps S h (strValues l) ((l.map (·.1)).map .str)
  | [] => .nil
  | (x, t) :: l => .cons (.str x t) (strs_reps l)

theorem BOp.join {sep : Str} {xs : List Str} (hok : JoinOk sep xs = true) : BOp "str.join" [.str sep, .list (xs.map .str)] (.str (Txt.join sep xs)) := .mk fun prog w _ A _ s vs Q E room _ r hQ => by
  obtain ⟨hlen, hr⟩ := r
  obtain ⟨u, v, rfl⟩ := lenA2 hlen
  obtain ⟨t, rfl⟩ := (hr 0 u _ rfl rfl).strOf
  obtain ⟨a, us, m, rfl, hS, hg, h1⟩ := (hr 1 v _ rfl rfl).listOf
  obtain ⟨l, rfl, hl⟩ := strs_of h1
  exact SC.join (isList_of hg) hl hok fun t' k => hQ _ _ Go.tok (.str _ _)

theorem BOp.split {x y : Str} {k : Int} (hy : (y.length == 0) = false) (hk : (decide (k < -(2 ^ 63 : Int)) || decide (k ≥ 2 ^ 63)) = false) (hx : x.length ≤ 1000000) : BOp "str.split" [.str x, .str y, .int k] (.list ((Txt.splitMax x y k).map .str)) := .mk fun prog w _ A S s vs Q E room bd r hQ => by
  obtain ⟨hlen, hr⟩ := r
  obtain ⟨a, b, c, rfl⟩ := lenA3 hlen
  obtain ⟨t, rfl⟩ := (hr 0 a _ rfl rfl).strOf
  obtain ⟨u, rfl⟩ := (hr 1 b _ rfl rfl).strOf
  obtain ⟨v, rfl⟩ := (hr 2 c _ rfl rfl).intOf
  have no : ¬ S s.heap.objs.size := fun q => by obtain ⟨o, e⟩ := bd _ q; rw [fresh_size] at e; cases e
  have fin : ∀ (l : List (Str × Tok)) (tk : Nat), l.map (·.1) = Txt.splitMax x y k → Q (.ref s.heap.objs.size) { s with toks := tk, heap := s.heap.push { cls := .type "list", data := .seq (strValues l).toArray } } := fun l tk e =>
    hQ _ _ (Go.heap0 fun b o e => Heap.get?_push_of_some _ e) (.listIs (vs := strValues l) (n := 0) no (Heap.get?_push_size _ rfl) (by rw [← e]; exact strs_reps l))
  cases h1 : (decide (x.length < y.length) || decide (Builtin.Str.strKind x < Builtin.Str.strKind y))
  · cases hf : (Builtin.Str.occurrences x y 0 x.length (limitOf x k)).isEmpty
    · have hn : (Builtin.Str.partsBetween x (Builtin.Str.occurrences x y 0 x.length (limitOf x k)) y.length).length ≤ sizeLine := by
        have e1 := StrLaws.occ_length_le_len x y 0 x.length (limitOf x k)
        rw [length_partsBetween]
        have : (1000002 : Nat) ≤ sizeLine := by decide
        omega
      refine call_meets F.slot_str_split (typeIs_str _ _ _) F.entry_str_split (F.args_str_split_3 _ _ _) (meets_str_split_sep_max x y k t u v hk h1 hy hf (Nat.le_trans hx (by decide)) hn) ?_
      show wants Q E _ { s with toks := _, heap := s.heap.push { cls := .type "list", data := .seq (strsFrom s.toks (Builtin.Str.partsBetween x (Builtin.Str.occurrences x y 0 x.length (limitOf x k)) y.length)).toArray } }
      rw [strsFrom_eq]
      exact fin (numbered s.toks _) _ ((numbered_texts _ _).trans ((if_neg (ne_true_of_eq_false h1)).trans (if_neg (ne_true_of_eq_false hf))).symm)
    · exact call_meets F.slot_str_split (typeIs_str _ _ _) F.entry_str_split (F.args_str_split_3 _ _ _) (meets_str_split_max_not_found x y k t u v hk h1 hy hf)
        (fin [(x, t)] s.toks ((if_neg (ne_true_of_eq_false h1)).trans (if_pos hf)).symm)
  · exact call_meets F.slot_str_split (typeIs_str _ _ _) F.entry_str_split (F.args_str_split_3 _ _ _) (meets_str_split_max_cannot_occur x y k t u v hk h1)
      (fin [(x, t)] s.toks (if_pos h1).symm)

section
variable {prog : Program} {w : World} {hb : Heap} {n : Nat} {A : Around} {env : Env} {ρ ρ' : Rho} {ω ω' : Omega} {s₀ s s' s'' : Shared} {S₀ Wt : ASet}

/-- a method of a text -/
theorem EV.methS {o e : Expr} {es : List Expr} {name : Str} {id : String} {apos pos : Pos} {x : Str} {ds : List PyData} {d : PyData} (slot : Slot "str" name id) (hty : typeOf (.builtin id) = pure (.type "method_descriptor")) (h : EV prog w hb n A env ρ ω o (.str x)) (ha : EVs prog w hb n A env ρ ω (e :: es) ds) (hb' : BOp id (.str x :: ds) d)
    (hbase : attributeBase o name env (eval o env) = eval o env := by exact base_plain rfl) (hfew : ((backTo pos (starEach (e :: es) env)).all (fun x => !x.1) && (backToKw pos (keywordEach [] env)).all (fun x => x.1.isSome) && decide ((e :: es).length + ([] : List Keyword).length + (if ([] : List Keyword).isEmpty then 0 else 1) < 30)) = true := by exact few_star rfl rfl)
    (hline : (apos.endLine == pos.line) = true := by rfl) (he : starEach (e :: es) env = (false, eval e env) :: starEach es env := by exact star_cons rfl) (hp : (backTo pos (starEach (e :: es) env)).any (·.1) = false := by exact any_star rfl) :
    EV prog w hb n A env ρ ω (.Call (.Attribute o name apos) (e :: es) [] pos) d := .mk fun s₀ S₀ Wt s Q E c hQ => by
  refine wpAny_Call_method (T := "str") (id := id) hbase hfew hline F.plainAttrs_str slot hty (h.run s₀ S₀ Wt s _ E c fun v s₁ g r => ?_)
  obtain ⟨t, rfl⟩ := r.strOf
  refine ⟨typeIs_str _ _ _, (fun a' e => nomatch e), PySem.Calls.callWith_builtin hp ?_⟩
  have hs := ha.run s₀ S₀ Wt s₁ pos (fun vs s₂ => wpAny (model prog w) A (call (.builtin id) ([.str x t] ++ vs) []) Q E s₂) E (c.keep g) fun vs s₂ g₂ rv => hb'.run prog w n A (Sx S₀ Wt env ω) s₂ (.str x t :: vs) Q E c.room (fun b q => ((c.keep g).keep g₂).bd q) (.cons (.str x t) rv) fun v s' g' r' => hQ v s' ((g.tr g₂).tr g') r'
  rw [he] at hs ⊢
  exact PySem.Calls.evalArgs_plain hs

/-- an int, looked up in a set of the top -/
theorem EV.inSet (T : TopF hb) {l : Expr} {y : Str} {p pos : Pos} {k : Int} {a : Addr} {o : Obj} {P : Int → Bool} {m : Nat} (hl : EV prog w hb n A env ρ ω l (.int k)) (hk : env.kindOf y = some .globalImplicit) (hg : Glob T y (.ref a)) (ho : hb.get? a = some o) (hs : o.IntSetOf P m) (hm : m < 4096)
    (hd : (y == ("__debug__" : Str)) = false := by decide) (hmk : behindInMarks .In (.Name y p) = false := by with_unfolding_all rfl) : EV prog w hb n A env ρ ω (.Compare l [.In] [.Name y p] pos) (.bool (P k)) := .mk fun s₀ S₀ Wt s Q E x hQ =>
  wpAny_Compare1 (hl.run s₀ S₀ Wt s _ E x fun u s₁ g₁ r₁ => glob_name T (x.keep g₁) hk hg (by
    obtain ⟨t, rfl⟩ := r₁.intOf
    exact wpAny_inSet_of (knd := intKind prog w) (intKind_is prog w k t) rfl ((hs prog w).setOf ((x.keep g₁).hb0 _ _ ho) hm) (hQ _ _ (g₁.tr Go.tok) (.bool _))) hd) hmk

/-- two dictionaries that agree -/
theorem hits_of {kb : List (Int × Value)} {B : List (Int × PyData)} {S : ASet} (hB : VRow S s.heap kb B) : ∀ {ka : List (Int × Value)} {a : List (Int × PyData)}, VRow S s.heap ka a → (∀ p ∈ a, ∃ d, dget B p.1 = some d ∧ ∀ u v, Rep S s.heap u p.2 → Rep S s.heap v d → SeqAt.EqAt A s u v true) → W.KeqHits A s kb ka true
  | [], [], _, _ => .nil
  | [], _ :: _, r, _ => absurd r.len (by simp)
  | _ :: _, [], r, _ => absurd r.len (by simp)
  | (k, v) :: ka, (k', d) :: a, r, h => by
    obtain ⟨rfl, rv, r'⟩ := r.uncons
    obtain ⟨d', hd', he⟩ := h (k, d) (.head _)
    rcases hB.get k with ⟨q, _⟩ | ⟨d'', v', q1, q2, q3⟩
    · rw [hd'] at q; cases q
    · rw [hd'] at q1; cases q1
      exact .hit (e := true) (b := true) (by rw [valueAt_vget]; exact q2) (he v v' rv q3) (hits_of hB r' fun p hp => h p (.tail _ hp))

structure DictSame (A : Around) (s : Shared) (S : ASet) (a b : List (Int × PyData)) : Prop where
  len : a.length = b.length
  same : ∀ p ∈ a, ∃ d, dget b p.1 = some d ∧ ∀ u v, Rep S s.heap u p.2 → Rep S s.heap v d → SeqAt.EqAt A s u v true

theorem dict_ne {S : ASet} {u v : Value} {a b : List (Int × PyData)} {Q E : Value → Shared → Prop} (ru : Rep S s.heap u (dictD a)) (rv : Rep S s.heap v (dictD b)) (h : DictSame A.in1 s S a b) (hu : A.units < cLine) (hQ : Q (.bool false) s) : wpAny (model prog w) A (compareOp .NotEq u v) Q E s := by
  obtain ⟨x, ka, rfl, h1, hm, hr⟩ := RepR.at prog w (.inl ru)
  obtain ⟨y, kb, rfl, h1', hm', hr'⟩ := RepR.at prog w (.inl rv)
  refine W.keq_ne (knd := intKind prog w) (r := true) h1 h1' hm hm' hu (fun _ => hits_of hr' hr h.same) ?_
  rw [hr.len, hr'.len, h.len]
  simpa using hQ
theorem dict_eqAt {S : ASet} {u v : Value} {a b : List (Int × PyData)} (ru : Rep S s.heap u (dictD a)) (rv : Rep S s.heap v (dictD b)) (h : DictSame A.in1 s S a b) (hu : A.units < cLine) : SeqAt.EqAt A s u v true := by
  obtain ⟨x, _, _, rfl, _, _⟩ := ru.dictOf
  obtain ⟨y, _, _, rfl, _, _⟩ := rv.dictOf
  by_cases hxy : x = y
  · subst hxy; exact SeqAt.EqAt.same _
  · refine SeqAt.EqAt.of_refs hxy fun prog w E Q hq => ?_
    obtain ⟨_, ka, e, h1, hm, hr⟩ := RepR.at prog w (.inl ru)
    cases e
    obtain ⟨_, kb, e', h1', hm', hr'⟩ := RepR.at prog w (.inl rv)
    cases e'
    refine W.keq_eq (knd := intKind prog w) (r := true) h1 h1' hm hm' hu (fun _ => hits_of hr' hr h.same) ?_
    rw [hr.len, hr'.len, h.len]
    simpa using hq
theorem data_eqAt {S : ASet} {u v : Value} {a : PyData} (ru : Rep S s.heap u a) (rv : Rep S s.heap v a) (ha : a.canLay0 = true) (hu : A.units + a.depth < cLine) : SeqAt.EqAt A s u v true := by
  obtain ⟨as, r⟩ := ru.reads
  obtain ⟨bs, r'⟩ := rv.reads
  have := SeqAt.eqAt_reads a a A s u v as bs r r' ha ha (by omega)
  rwa [lay_refl ha] at this
theorem tuple_eqAt {S : ASet} {u v : Value} {a b : List PyData} (ru : Rep S s.heap u (.tuple a)) (rv : Rep S s.heap v (.tuple b)) (hl : a.length = b.length) (h : ∀ (i : Nat) d e, a[i]? = some d → b[i]? = some e → ∀ u v, Rep S s.heap u d → Rep S s.heap v e → SeqAt.EqAt A.in1 s u v true) (hu : A.units < cLine) : SeqAt.EqAt A s u v true := by
  obtain ⟨x, vs, m, rfl, _, hg, hr⟩ := ru.tupleOf
  obtain ⟨y, us, m', rfl, _, hg', hr'⟩ := rv.tupleOf
  by_cases hxy : x = y
  · subst hxy; exact SeqAt.EqAt.same _
  · have hvu : vs.length = us.length := by rw [hr.1, hr'.1, hl]
    have := SeqAt.RcAt.tuples (A := A) (s := s) (e := fun _ => true) ⟨_, hg, rfl, m, rfl⟩ ⟨_, hg', rfl, m', rfl⟩ hu fun j h1 h2 => by
      have j1 : j < vs.length := by simpa using h1
      have j2 : j < us.length := by simpa using h2
      have k1 : j < a.length := hr.1 ▸ j1
      have k2 : j < b.length := hr'.1 ▸ j2
      exact h j a[j] b[j] (List.getElem?_eq_getElem k1) (List.getElem?_eq_getElem k2) _ _ (hr.2 j _ _ (by simp [List.getElem?_eq_getElem j1]) (List.getElem?_eq_getElem k1)) (hr'.2 j _ _ (by simp [List.getElem?_eq_getElem j2]) (List.getElem?_eq_getElem k2))
    have e : ((List.range (min vs.toArray.size us.toArray.size)).all (fun _ => true) && vs.toArray.size == us.toArray.size) = true := by simp [hvu]
    rw [e] at this
    exact SeqAt.EqAt.of_refs hxy this
end
end Mine

namespace Mine
open PySem PySem.Calls PyProof.Rows

inductive Cov (ρ' : Rho) : Rho → Prop
  | nil : Cov ρ' []
  | cons {y : Str} {d : PyData} {ρ : Rho} : ρ'.lookup y = some d → Cov ρ' ρ → Cov ρ' ((y, d) :: ρ)
theorem Cov.sub {ρ' ρ : Rho} (c : Cov ρ' ρ) : ∀ y d, ρ.lookup y = some d → ρ'.lookup y = some d := by
  induction c with
  | nil => intro y d h; cases h
  | cons h _ ih =>
    intro y d e
    rcases lookup_cons_cases e with ⟨rfl, rfl⟩ | ⟨_, e⟩
    · exact h
    · exact ih y d e
theorem sub_refl {ρ : Rho} : ∀ y d, ρ.lookup y = some d → ρ.lookup y = some d := fun _ _ h => h
theorem sub_new {ρ ρ' : Rho} {z : Str} {e : PyData} (h : ∀ y d, ρ.lookup y = some d → ρ'.lookup y = some d) (hz : ρ.lookup z = none) : ∀ y d, ρ.lookup y = some d → List.lookup y ((z, e) :: ρ') = some d := fun y d q => by
  rw [List.lookup_cons]
  have : (y == z) = false := by
    rw [beq_eq_false_iff_ne]; rintro rfl; rw [hz] at q; cases q
  rw [this]; exact h y d q

theorem ap0 {y : Str} : ∀ p ∈ ([] : Omega), p.1 ≠ y := fun p hp => nomatch hp
theorem ap1 {n y : Str} {a : Addr} {d : PyData} (h : (n == y) = false) : ∀ p ∈ ([(n, a, d)] : Omega), p.1 ≠ y := fun p hp => by
  rcases List.mem_cons.mp hp with rfl | hp
  · simpa using h
  · cases hp
theorem ap2 {n n' y : Str} {a a' : Addr} {d d' : PyData} (h : (n == y) = false) (h' : (n' == y) = false) : ∀ p ∈ ([(n, a, d), (n', a', d')] : Omega), p.1 ≠ y := fun p hp => by
  rcases List.mem_cons.mp hp with rfl | hp
  · simpa using h
  · exact ap1 h' p hp

section
variable {prog : Program} {w : World} {hb : Heap} {n : Nat} {A : Around} {env cenv : Env} {ρ ρ' : Rho} {ω ω' : Omega}

/-- what one turn of a comprehension does with an item -/
structure Turn (prog : Program) (w : World) (hb : Heap) (n : Nat) (A : Around) (cenv : Env) (ρ : Rho) (t : Expr) (ifs : List Expr) (elt : Expr) (d : PyData) (y : Option PyData) : Prop where
  go : ∃ ρ', AC prog w hb n A cenv ρ t d ρ' ∧ (∀ z e, ρ.lookup z = some e → ρ'.lookup z = some e) ∧ TS prog w hb n A cenv ρ' ifs y.isSome ∧ ∀ v, y = some v → EV prog w hb n A cenv ρ' [] elt v
theorem CL.fm {α : Type} {elt : Expr} {gens : List Comprehension} {scope : Scope} {pos : Pos} {d : Nat} {t : Expr} {ip : Pos} {ifs : List Expr} {f : α → PyData} {g : α → Option PyData}
    (hT : ∀ it acc, compTurn (.ListComp elt gens scope pos) d it acc cenv = turn1 ip t ifs cenv it (fun k => do (do let _ ← call (.builtin "list.append") [acc, ← eval elt cenv]); k) (.compLoop (.ListComp elt gens scope pos) d it acc cenv)) :
    ∀ (items : List α), (∀ a ∈ items, Turn prog w hb n A cenv ρ t ifs elt (f a) (g a)) → CL prog w hb n A cenv (.ListComp elt gens scope pos) d t ρ (items.map f) (items.filterMap g)
  | [], _ => .nil (emit := fun acc k => do (do let _ ← call (.builtin "list.append") [acc, ← eval elt cenv]); k) hT
  | a :: r, h => by
    have ih := CL.fm hT r fun b hb' => h b (.tail _ hb')
    obtain ⟨ρ', h1, h2, h3, h4⟩ := (h a (.head _)).go
    rw [List.map_cons]
    cases hg : g a with
    | none =>
      rw [List.filterMap_cons_none hg]
      rw [hg] at h3
      exact .skip (emit := fun acc k => do (do let _ ← call (.builtin "list.append") [acc, ← eval elt cenv]); k) hT h1 h2 h3 ih
    | some v =>
      rw [List.filterMap_cons_some hg]
      rw [hg] at h3
      exact .cons hT h1 h2 h3 (h4 v hg) ih

theorem CL.conv {e : Expr} {d : Nat} {t : Expr} {xs ys ys' : List PyData} (h : CL prog w hb n A cenv e d t ρ xs ys) (q : ys = ys') : CL prog w hb n A cenv e d t ρ xs ys' := q ▸ h

/-- a for whose turns go from state to state -/
theorem FL.inv {α σ : Type} {t : Expr} {body : List Stmt} {f : α → PyData} (P : Nat → σ → Prop) (R : σ → Rho) (O : σ → Omega) (step : σ → α → σ) :
    ∀ (items : List α) (i : Nat) (s : σ), P i s → (∀ j s a, items[j]? = some a → P (i + j) s → P (i + j + 1) (step s a) ∧ ∃ ρ' ρ'', AS prog w hb n A env (R s) (O s) t (f a) ρ' ∧ EX prog w hb n A env ρ' (O s) body (.next ρ'' (O (step s a))) ∧ Cov ρ'' (R (step s a))) →
      FL prog w hb n A env (R s) (O s) t body (items.map f) (.next (R (items.foldl step s)) (O (items.foldl step s)))
  | [], i, s, _, _ => .nil
  | a :: r, i, s, hP, h => by
    obtain ⟨hP', ρ', ρ'', h1, h2, h3⟩ := h 0 s a rfl hP
    exact .next h1 h2 ((FL.inv P R O step r (i + 1) (step s a) hP' fun j s b hb' hp => by
      have := h (j + 1) s b (by simpa using hb') (by rw [← Nat.add_assoc, Nat.add_right_comm]; exact hp)
      rwa [show i + (j + 1) + 1 = i + 1 + j + 1 by omega] at this).sub h3.sub)

/-- rows by key -/
noncomputable def aget {α : Type} : List (Int × α) → Int → Option α
  | [], _ => none
  | (k', d) :: r, k => if k' = k then some d else aget r k
noncomputable def aset {α : Type} : List (Int × α) → Int → α → List (Int × α)
  | [], k, d => [(k, d)]
  | (k', d') :: r, k, d => if k' = k then (k', d) :: r else (k', d') :: aset r k d
theorem dget_map {α : Type} (f : α → PyData) : ∀ (l : List (Int × α)) (k : Int), dget (l.map fun p => (p.1, f p.2)) k = (aget l k).map f
  | [], _ => rfl
  | (k', d) :: r, k => by
    simp only [List.map_cons, dget, aget]
    split
    · rfl
    · exact dget_map f r k
theorem dset_map {α : Type} (f : α → PyData) : ∀ (l : List (Int × α)) (k : Int) (v : α), dset (l.map fun p => (p.1, f p.2)) k (f v) = (aset l k v).map fun p => (p.1, f p.2)
  | [], _, _ => rfl
  | (k', d) :: r, k, v => by
    simp only [List.map_cons, dset, aset]
    split
    · rfl
    · simp [dset_map f r k v]
theorem aset_len {α : Type} : ∀ (l : List (Int × α)) (k : Int) (v : α), (aset l k v).length ≤ l.length + 1
  | [], _, _ => Nat.le_refl _
  | (k', d) :: r, k, v => by
    unfold aset
    split
    · simp
    · simpa using aset_len r k v
theorem aset_keys {α : Type} : ∀ (l : List (Int × α)) (k : Int) (v : α) (x : Int), x ∈ (aset l k v).map (·.1) ↔ x = k ∨ x ∈ l.map (·.1)
  | [], k, v, x => by simp [aset]
  | (k', d) :: r, k, v, x => by
    unfold aset
    split
    · rename_i h; subst h; simp
    · simp only [List.map_cons, List.mem_cons, aset_keys r k v x]
      constructor
      · rintro (h | h | h)
        · exact .inr (.inl h)
        · exact .inl h
        · exact .inr (.inr h)
      · rintro (h | h | h)
        · exact .inr (.inl h)
        · exact .inl h
        · exact .inr (.inr h)
theorem aset_nodup {α : Type} : ∀ (l : List (Int × α)) (k : Int) (v : α), (l.map (·.1)).Nodup → ((aset l k v).map (·.1)).Nodup
  | [], k, v, _ => by simp [aset]
  | (k', d) :: r, k, v, h => by
    rw [List.map_cons, List.nodup_cons] at h
    unfold aset
    split
    · rw [List.map_cons, List.nodup_cons]; exact h
    · rename_i hne
      rw [List.map_cons, List.nodup_cons]
      refine ⟨fun hm => ?_, aset_nodup r k v h.2⟩
      rcases (aset_keys r k v k').mp hm with e | e
      · exact hne e
      · exact h.1 e
theorem aget_aset {α : Type} : ∀ (l : List (Int × α)) (k : Int) (v : α) (x : Int), aget (aset l k v) x = if x = k then some v else aget l x
  | [], k, v, x => by
    unfold aset aget
    by_cases h : k = x
    · simp [h]
    · simp [h, Ne.symm h, aget]
  | (k', d) :: r, k, v, x => by
    unfold aset
    by_cases h : k' = k
    · subst h
      rw [if_pos rfl]
      unfold aget
      by_cases hx : k' = x
      · simp [hx]
      · simp [hx, Ne.symm hx]
    · rw [if_neg h]
      unfold aget
      by_cases hx : k' = x
      · subst hx; simp [h]
      · simp only [hx, if_false]; exact aget_aset r k v x
theorem aget_none {α : Type} : ∀ {l : List (Int × α)} {k : Int}, aget l k = none ↔ k ∉ l.map (·.1)
  | [], k => by simp [aget]
  | (k', d) :: r, k => by
    unfold aget
    by_cases h : k' = k
    · simp [h]
    · simp only [h, if_false, List.map_cons, List.mem_cons, not_or, aget_none (l := r)]
      exact ⟨fun q => ⟨Ne.symm h, q⟩, fun q => q.2⟩

noncomputable def enumFrom (k : Nat) (xs : List PyData) : List PyData := (xs.zipIdx k).map fun p => .tuple [.int p.2, p.1]
theorem enumD_map {α : Type} (f : α → PyData) (l : List α) : enumD (l.map f) = (l.zipIdx).map fun p => .tuple [.int p.2, f p.1] := by
  unfold enumD
  rw [List.zipIdx_map, List.map_map]
  rfl
end
end Mine

namespace Mine
open PySem PySem.Calls PyProof.Rows
section
variable {prog : Program} {w : World} {hb : Heap} {n : Nat} {A : Around} {env cenv : Env} {ρ ρ' : Rho} {ω ω' : Omega} {s₀ s : Shared} {S₀ Wt : ASet}

theorem EI.tuple {t e : Expr} {xs : List PyData} (h : EV prog w hb n A env ρ ω e (.tuple xs)) : EI prog w hb n A env ρ ω t e xs := .mk fun s₀ S₀ Wt s Q E x hQ =>
  h.run s₀ S₀ Wt s _ E x fun v s₁ g r => by
    obtain ⟨l, vs, m, rfl, hS, hg, hr⟩ := r.tupleOf
    have ht : s₁.heap.IsTuple l vs.toArray := ⟨_, hg, rfl, m, rfl⟩
    refine wpAny_pyIter_tuple ht ?_
    generalize hs₂ : ({ s₁ with heap := s₁.heap.push { cls := .type "tuple_iterator", data := .fields #[.ref l, .int 0 0] } } : Shared) = s₂
    have g₂ : Go0 s₁ s₂ := hs₂ ▸ Go.push
    have hI : s₂.heap.IsTupleIter s₁.heap.objs.size l 0 := by rw [← hs₂]; exact ⟨_, Heap.get?_push_size _ rfl, rfl, rfl⟩
    have hnew : s.heap.get? s₁.heap.objs.size = none := by
      cases e : s.heap.get? s₁.heap.objs.size with
      | none => rfl
      | some o => have := g.k0 _ _ e; rw [fresh_size] at this; cases this
    have hne : l ≠ s₁.heap.objs.size := fun q => by rw [q, fresh_size] at hg; cases hg
    have ht₂ : s₂.heap.IsTuple l vs.toArray := ⟨_, g₂.k0 _ _ hg, rfl, m, rfl⟩
    have it := Itr.ofWalks (t := t) (S := Shut S₀ Wt env ω s₂) (xs := xs) (D := fun s => Reps (Shut S₀ Wt env ω s₂) s.heap vs xs)
      (Walks.tuple (prog := prog) (w := w) (A := A) x.room.handled s₁.heap.objs.size l hne vs.toArray) (by simp [hr.1])
      (fun b hb' => by
        simp only [List.mem_cons, List.not_mem_nil, or_false] at hb'
        rcases hb' with rfl | rfl
        · obtain ⟨o, e, _⟩ := hI
          exact Shut.not (fun q => by obtain ⟨o, e⟩ := (x.keep g).bd q; rw [fresh_size] at e; cases e) e
        · exact Shut.not hS (g₂.k0 _ _ hg))
      (fun i h st b hb' => by
        simp only [List.mem_cons, List.not_mem_nil, or_false] at hb'
        subst hb'
        obtain ⟨o, ho, hc, _⟩ := st.1
        exact ⟨o, ho, notCont hc (by decide)⟩)
      (fun i s v Q E st hq => by
        obtain ⟨o, ho, hc, _⟩ := st.1
        exact letGo_other ho hc (by decide) hq)
      (fun s s' d g => d.go g) (fun s s' d g nc => d.gw g nc)
      (fun i v d s hP hd hD => hD.2 i v d (by simpa using hP) hd)
    refine hQ _ _ _ _ _ (g.tr g₂) it (Shut.begun (fun b hb' => ?_) fun b hb' => let ⟨o, e, _⟩ := hI; ⟨o, by simp only [List.mem_cons, List.not_mem_nil, or_false] at hb'; exact hb' ▸ e⟩) ⟨⟨hI, ht₂⟩, Shut.reps hr g₂⟩
    simp only [List.mem_cons, List.not_mem_nil, or_false] at hb'
    exact hb' ▸ hnew

/-- a comprehension with two loops: the outer one -/
theorem CL.fm2 {α : Type} {elt t iter t' iter' : Expr} {ifs ifs' : List Expr} {scope : Scope} {pos : Pos} {f : α → PyData} {us ys : α → List PyData} (hf : ∀ x, foldedSetIterable iter' cenv x = pure x) :
    ∀ (items : List α), (∀ a ∈ items, ∃ ρ', AC prog w hb n A cenv ρ t (f a) ρ' ∧ (∀ z e, ρ.lookup z = some e → ρ'.lookup z = some e) ∧ TS prog w hb n A cenv ρ' ifs true ∧ EI prog w hb n A cenv ρ' [] t' iter' (us a) ∧ CL prog w hb n A cenv (.ListComp elt [⟨t, iter, ifs, 0⟩, ⟨t', iter', ifs', 0⟩] scope pos) 1 t' ρ' (us a) (ys a)) →
      CL prog w hb n A cenv (.ListComp elt [⟨t, iter, ifs, 0⟩, ⟨t', iter', ifs', 0⟩] scope pos) 0 t ρ (items.map f) (items.flatMap ys)
  | [], _ => .nil (emit := _) (fun it acc => turn_outer elt t iter t' iter' ifs ifs' scope pos it acc cenv)
  | a :: r, h => by
    obtain ⟨ρ', h1, h2, h3, h4, h5⟩ := h a (.head _)
    rw [List.map_cons, List.flatMap_cons]
    exact .inner h1 h2 h3 h4 h5 (CL.fm2 hf r fun b hb' => h b (.tail _ hb')) hf

/-- a sign of a text -/
theorem EV.itemS {o i : Expr} {pos : Pos} {y : Str} {k : Int} {c : Nat} (ho : EV prog w hb n A env ρ ω o (.str y)) (hi : EV prog w hb n A env ρ ω i (.int k)) (hr : (decide (k < -(2 ^ 63 : Int)) || decide (k ≥ 2 ^ 63)) = false) (hc : (seqIndex? k y.length).bind (y.cps[·]?) = some c)
    (hs : ∀ (t u : Tok), subscripted i false (.str y t) (.int k u) = operate [.str y t, .int k u] (getItem (.str y t) (.int k u)) := by intros; rfl) : EV prog w hb n A env ρ ω (.Subscript o i pos) (.str ⟨#[c]⟩) := .mk fun s₀ S₀ Wt s Q E x hQ =>
  Subscript_ (ho.run s₀ S₀ Wt s _ E x fun v s₁ g₁ r₁ => hi.run s₀ S₀ Wt s₁ _ E (x.keep g₁) fun u s₂ g₂ r₂ => by
    obtain ⟨t, rfl⟩ := r₁.strOf
    obtain ⟨t', rfl⟩ := r₂.intOf
    exact tail_any (typeIs_str _ _ _) F.slot_str_getitem.lookup (P.getItem_str hr hc (hQ _ _ ((g₁.tr g₂).tr Go.tok) (.str _ _))) (hs _ _))
end
end Mine

namespace Mine
open PySem PySem.Calls PyProof.Rows



theorem fmod_nat (a b : Nat) : Int.fmod (a : Int) (b : Int) = ((a % b : Nat) : Int) := by rw [Int.fmod_eq_emod_of_nonneg _ (Int.natCast_nonneg _)]; rfl
theorem fdiv_nat (a b : Nat) : Int.fdiv (a : Int) (b : Int) = ((a / b : Nat) : Int) := by rw [Int.fdiv_eq_ediv_of_nonneg _ (Int.natCast_nonneg _)]; rfl

section
variable {prog : Program} {w : World} {hb : Heap} {n : Nat} {A : Around} {env : Env} {ρ ρ' : Rho} {ω : Omega}
theorem noOwn {y : Str} : ∀ p ∈ ([] : Omega), p.1 ≠ y := fun p hp => nomatch hp
theorem EX.conv {sts : List Stmt} {d d' : PyData} (h : EX prog w hb n A env ρ ω sts (.ret d)) (e : d = d') : EX prog w hb n A env ρ ω sts (.ret d') := e ▸ h
theorem EV.conv {x : Expr} {d d' : PyData} (h : EV prog w hb n A env ρ ω x d) (e : d = d') : EV prog w hb n A env ρ ω x d' := e ▸ h
theorem EB.conv {x : Expr} {d d' : Bool} (h : EB prog w hb n A env ρ ω x d) (e : d = d') : EB prog w hb n A env ρ ω x d' := e ▸ h

/-- a def of the text that can be called -/
noncomputable def Callable (T : TopF hb) (prog : Program) (w : World) (n : Nat) (f : Str) (g : List PyData → PyData → Prop) : Prop := ∃ a, Glob T f (.ref a) ∧ IsFn hb a ∧ Fn prog w hb n a g
theorem EV.call (T : TopF hb) {f : Str} {m : Nat} {g : List PyData → PyData → Prop} {fp pos : Pos} {e : Expr} {es : List Expr} {ds : List PyData} {d : PyData} (F : Callable T prog w m f g) (hk : env.kindOf f = some .globalImplicit) (hm : m ≤ n)
    (ha : EVs prog w hb n A env ρ ω (e :: es) ds) (hd' : g ds d) (hd : (f == ("__debug__" : Str)) = false := by decide) (he : starEach (e :: es) env = (false, eval e env) :: starEach es env := by exact star_cons rfl) :
    EV prog w hb n A env ρ ω (.Call (.Name f fp) (e :: es) [] pos) d := by
  obtain ⟨a, h1, h2, h3⟩ := F
  exact EV.callF T hk h1 h2 h3 hm ha hd' hd he

noncomputable def b1L : List Nat := [173, 847, 6150, 6155, 6156, 6157, 8203, 8204, 8205, 8288, 65279] ++ (List.range 16).map (· + 65024)
noncomputable def c6L : List Nat := (List.range 5).map (· + 65529)
noncomputable def c7L : List Nat := (List.range 12).map (· + 12272)
noncomputable def c8L : List Nat := [832, 833, 8206, 8207] ++ (List.range 5).map (· + 8234) ++ (List.range 6).map (· + 8298)
noncomputable def c9L : List Nat := [917505] ++ (List.range 96).map (· + 917536)
/-- what the text's top leaves -/
structure Tops (hb : Heap) (T : TopF hb) where
  adr : Nat → Addr
  pm : Nat → Value
  cd : Nat → Value
  tick : ∃ t, Glob T "TICK" (.str "'" t)
  ord : Glob T "ord" (.builtin "ord")
  chr : Glob T "chr" (.builtin "chr")
  len : Glob T "len" (.builtin "len")
  sum : Glob T "sum" (.builtin "sum")
  isi : Glob T "isinstance" (.builtin "isinstance")
  range : Glob T "range" (.type "range")
  enum : Glob T "enumerate" (.type "enumerate")
  tuple : Glob T "tuple" (.type "tuple")
  defs : ∀ k ∈ [2, 3, 4, 5, 7, 8, 9, 12, 13, 15, 17, 19, 21, 23, 24, 25, 26, 27, 28, 29, 30, 31, 32, 33, 34, 35, 36], Glob T (fnName (topS k)) (.ref (adr k)) ∧ DefAt hb (adr k) k (pm k) (cd k)
  set : ∀ p ∈ ([("b1_set", b1L), ("c6_set", c6L), ("c7_set", c7L), ("c8_set", c8L), ("c9_set", c9L)] : List (String × List Nat)),
    ∃ a o m, Glob T p.1 (.ref a) ∧ hb.get? a = some o ∧ o.IntSetOf (fun k => decide (k ∈ p.2.map Int.ofNat)) m ∧ m < 4096

theorem DefAt.isFn {a : Addr} {k : Nat} {pm cd : Value} (D : DefAt hb a k pm cd) : IsFn hb a := ⟨_, _, D.get, rfl⟩

theorem len1 {α : Type} {k : Nat} {vs : List α} (h : k = vs.length) (hk : k = 1) : ∃ a, vs = [a] := by
  subst hk
  match vs, h with
  | [a], _ => exact ⟨a, rfl⟩
theorem len2 {α : Type} {k : Nat} {vs : List α} (h : k = vs.length) (hk : k = 2) : ∃ a b, vs = [a, b] := by
  subst hk
  match vs, h with
  | [a, b], _ => exact ⟨a, b, rfl⟩
theorem len3 {α : Type} {k : Nat} {vs : List α} (h : k = vs.length) (hk : k = 3) : ∃ a b c, vs = [a, b, c] := by
  subst hk
  match vs, h with
  | [a, b, c], _ => exact ⟨a, b, c, rfl⟩
/-- a contract, from the body -/
theorem Tops.fn {T : TopF hb} (W : Tops hb T) {k : Nat} {ps : List Str} {g : List PyData → PyData → Prop} (hk : k ∈ [2, 3, 4, 5, 7, 8, 9, 12, 13, 15, 17, 19, 21, 23, 24, 25, 26, 27, 28, 29, 30, 31, 32, 33, 34, 35, 36]) (hs : FnScope (fnScope (topS k)) ps) (hgen : (fnScope (topS k)).isGenerator = false)
    (hbind : ∀ (pm cd : Value) (vs : List Value), ps.length = vs.length → bindArgs (defOf k pm cd) ⟨vs, []⟩ = pure (ps.zip vs)) (hg : ∀ ds d, g ds d → ps.length = ds.length)
    (h : ∀ A L f pm cd ds d, g ds d → EX prog w hb n A (callEnvC (defOf k pm cd) L f) (ps.zip ds) [] (fnBody (topS k)) (.ret d)) : Callable T prog w (n + 1) (fnName (topS k)) g := by
  obtain ⟨h1, h2⟩ := W.defs k hk
  exact ⟨_, h1, h2.isFn, Fn.of T h2 hs hgen (hbind _ _) (fun A L ds d hd _ => h A L _ _ _ ds d hd) hg⟩

theorem ndiv {m k : Nat} (hk : k < 1000000000) : Builtin.divisionGoesByPylong (m : Int) (k : Int) = false := PyProof.noPylong_small (by simp; omega)

noncomputable def lawCallD (m : Nat) : PyData := .tuple [.int (m % 6 : Nat), .int ((m % 6 + 1 + m / 6 % 5) % 6 : Nat), .int (1 + m / 30 % 4 : Nat)]
theorem c_call {T : TopF hb} (W : Tops hb T) : Callable T prog w (n + 1) "_law_call" (fun ds d => ∃ m : Nat, ds = [.int m] ∧ d = lawCallD m) := by
  refine W.fn (k := 24) (ps := ["number"]) (by decide) ⟨rfl, rfl, by decide, by decide, by decide⟩ rfl (fun _ _ vs h => by obtain ⟨a, rfl⟩ := len1 h rfl; kernel_rfl) (fun ds d ⟨m, h, _⟩ => by rw [h]; rfl) (fun A L f pm cd ds d ⟨m, hds, hd⟩ => ?_)
  subst hds; subst hd
  refine EX.cons (ST.assign (.fmod (.name rfl) .int (by decide)) (.inl rfl) noOwn) ?_
  refine EX.cons (ST.assign (.fmod (.add (.add (.name rfl) .int) (.fmod (.fdiv (.name rfl) .int (by decide) (ndiv (k := 6) (by decide))) .int (by decide))) .int (by decide)) (.inl rfl) noOwn) ?_
  refine EX.conv (EX.one (ST.ret (.tuple (.cons (.name rfl) (.cons (.name rfl) (.cons (.add .int (.fmod (.fdiv (.name rfl) .int (by decide) (ndiv (k := 30) (by decide))) .int (by decide))) .nil)))))) ?_
  have e6 : (6 : Int) = ((6 : Nat) : Int) := rfl
  have e5 : (5 : Int) = ((5 : Nat) : Int) := rfl
  have e30 : (30 : Int) = ((30 : Nat) : Int) := rfl
  have e4 : (4 : Int) = ((4 : Nat) : Int) := rfl
  have e1 : (1 : Int) = ((1 : Nat) : Int) := rfl
  unfold lawCallD
  rw [e6, e5, e30, e4, e1, fdiv_nat, fdiv_nat, fmod_nat, fmod_nat, fmod_nat, ← Int.natCast_add, ← Int.natCast_add, ← Int.natCast_add, fmod_nat]

/-- the signs -/
noncomputable def signs : List (List Nat) := [[173, 847, 65024, 65039], [64976, 65007, 65534, 1114111], [65529, 65530, 65532, 65533], [12272, 12275, 12280, 12283], [832, 8207, 8234, 8303], [917505, 917536, 917600, 917631]]
noncomputable def codeOf (t p : Nat) : Nat := (signs.getD t []).getD p 0
noncomputable def sgn (t p : Nat) : Str := ⟨#[codeOf t p]⟩
noncomputable def row (t : Nat) : List PyData := (signs.getD t []).map fun c => .int ((c : Nat) : Int)
theorem row_get (t : Nat) (ht : t < 6) (p : Nat) (hp : p < 4) : (row t)[p]? = some (.int (codeOf t p)) := by
  unfold row codeOf
  rw [List.getElem?_map]
  have h : ∀ t, t < 6 → ∀ p, p < 4 → (signs.getD t [])[p]? = some ((signs.getD t []).getD p 0) := by decide
  rw [h t ht p hp]; rfl
theorem c_sign {T : TopF hb} (W : Tops hb T) : Callable T prog w (n + 1) "_law_sign" (fun ds d => ∃ t p : Nat, t < 6 ∧ p < 4 ∧ ds = [.int t, .int p] ∧ d = .str (sgn t p)) := by
  refine W.fn (k := 23) (ps := ["table", "place"]) (by decide) ⟨rfl, rfl, by decide, by decide, by decide⟩ rfl (fun _ _ vs h => by obtain ⟨a, b, rfl⟩ := len2 h rfl; kernel_rfl) (fun ds d ⟨t, p, _, _, h, _⟩ => by rw [h]; rfl) (fun A L f pm cd ds d ⟨t, p, ht, hp, hds, hd⟩ => ?_)
  subst hds; subst hd
  have i4 : ∀ {e₁ e₂ e₃ e₄ : Expr} {a b c d : Int} {ρ : Rho} {pos : Pos} {env : Env}, EV prog w hb n A env ρ [] e₁ (.int a) → EV prog w hb n A env ρ [] e₂ (.int b) → EV prog w hb n A env ρ [] e₃ (.int c) → EV prog w hb n A env ρ [] e₄ (.int d) → starEach [e₁, e₂, e₃, e₄] env = (false, eval e₁ env) :: starEach [e₂, e₃, e₄] env → starEach [e₂, e₃, e₄] env = (false, eval e₂ env) :: starEach [e₃, e₄] env → starEach [e₃, e₄] env = (false, eval e₃ env) :: starEach [e₄] env → starEach [e₄] env = (false, eval e₄ env) :: starEach [] env → EV prog w hb n A env ρ [] (.List [e₁, e₂, e₃, e₄] pos) (.list [.int a, .int b, .int c, .int d]) :=
    fun h1 h2 h3 h4 q1 q2 q3 q4 => .list (.cons h1 (.cons h2 (.cons h3 (.cons h4 .nil q4) q3) q2) q1)
  have hr : ∀ t, t < 6 → ∀ p, p < 4 → (decide (((codeOf t p : Nat) : Int) < 0) || decide (((codeOf t p : Nat) : Int) > 0x10FFFF)) = false := by decide

  refine EX.conv (d := .str ⟨#[(codeOf t p : Int).toNat]⟩) (EX.one (ST.ret ?_)) (by rw [Int.toNat_natCast]; rfl)
  refine .callB T rfl W.chr (ds := [.int (codeOf t p)]) (.cons ?_ .nil) (BOp.chr (i := codeOf t p) (hr t ht p hp))
  refine .itemL (xs := row t) (d := .int (codeOf t p)) (k := p) (EV.toR ?_) (.name rfl) (Int.natCast_nonneg _) (by omega) (by rw [Int.toNat_natCast]; exact row_get t ht p hp)
  refine .itemL (d := .list (row t)) (k := t) (EV.toR (.list (.cons (i4 .int .int .int .int rfl rfl rfl rfl) (.cons (i4 .int .int .int .int rfl rfl rfl rfl) (.cons (i4 .int .int .int .int rfl rfl rfl rfl) (.cons (i4 .int .int .int .int rfl rfl rfl rfl) (.cons (i4 .int .int .int .int rfl rfl rfl rfl) (.cons (i4 .int .int .int .int rfl rfl rfl rfl) .nil)))))))) (.name rfl) (Int.natCast_nonneg _) (by omega) ?_
  · rw [Int.toNat_natCast]
    match t, ht with
    | 0, _ => rfl
    | 1, _ => rfl
    | 2, _ => rfl
    | 3, _ => rfl
    | 4, _ => rfl
    | 5, _ => rfl
end
end Mine

namespace Mine
open PySem PySem.Calls PyProof.Rows
section
variable {prog : Program} {w : World} {hb : Heap} {n : Nat}

noncomputable def inL (l : List Nat) (c : Nat) : Bool := decide (c ∈ l)
theorem inL_int (l : List Nat) (c : Nat) : decide (((c : Nat) : Int) ∈ l.map Int.ofNat) = inL l c := by
  unfold inL
  rw [decide_eq_decide]
  constructor
  · intro h
    obtain ⟨x, hx, e⟩ := List.mem_map.mp h
    have : x = c := Int.ofNat.inj e
    exact this ▸ hx
  · intro h; exact List.mem_map.mpr ⟨c, h, rfl⟩

noncomputable def inG (l : List Nat) : List PyData → PyData → Prop := fun ds d => ∃ c : Nat, ds = [.str ⟨#[c]⟩] ∧ d = .bool (inL l c)
theorem c_b1 {T : TopF hb} (W : Tops hb T) : Callable T prog w (n + 1) "in_table_b1" (inG b1L) := by
  obtain ⟨a, o, m, hg, ho, hs, hm⟩ := W.set ("b1_set", b1L) (.head _)
  refine W.fn (k := 12) (ps := ["code"]) (by decide) ⟨rfl, rfl, by decide, by decide, by decide⟩ rfl (fun _ _ vs h => by obtain ⟨a, rfl⟩ := len1 h rfl; kernel_rfl) (fun ds d ⟨c, h, _⟩ => by rw [h]; rfl) (fun A L f pm cd ds d ⟨c, hds, hd⟩ => ?_)
  subst hds; subst hd
  exact EX.conv (EX.one (ST.ret (.inSet T (.callB T rfl W.ord (.cons (.name rfl) .nil) .ord) rfl hg ho hs hm))) (by rw [← inL_int])
theorem c_c6 {T : TopF hb} (W : Tops hb T) : Callable T prog w (n + 1) "in_table_c6" (inG c6L) := by
  obtain ⟨a, o, m, hg, ho, hs, hm⟩ := W.set ("c6_set", c6L) (.tail _ (.head _))
  refine W.fn (k := 15) (ps := ["code"]) (by decide) ⟨rfl, rfl, by decide, by decide, by decide⟩ rfl (fun _ _ vs h => by obtain ⟨a, rfl⟩ := len1 h rfl; kernel_rfl) (fun ds d ⟨c, h, _⟩ => by rw [h]; rfl) (fun A L f pm cd ds d ⟨c, hds, hd⟩ => ?_)
  subst hds; subst hd
  exact EX.conv (EX.one (ST.ret (.inSet T (.callB T rfl W.ord (.cons (.name rfl) .nil) .ord) rfl hg ho hs hm))) (by rw [← inL_int])
theorem c_c7 {T : TopF hb} (W : Tops hb T) : Callable T prog w (n + 1) "in_table_c7" (inG c7L) := by
  obtain ⟨a, o, m, hg, ho, hs, hm⟩ := W.set ("c7_set", c7L) (.tail _ (.tail _ (.head _)))
  refine W.fn (k := 17) (ps := ["code"]) (by decide) ⟨rfl, rfl, by decide, by decide, by decide⟩ rfl (fun _ _ vs h => by obtain ⟨a, rfl⟩ := len1 h rfl; kernel_rfl) (fun ds d ⟨c, h, _⟩ => by rw [h]; rfl) (fun A L f pm cd ds d ⟨c, hds, hd⟩ => ?_)
  subst hds; subst hd
  exact EX.conv (EX.one (ST.ret (.inSet T (.callB T rfl W.ord (.cons (.name rfl) .nil) .ord) rfl hg ho hs hm))) (by rw [← inL_int])
theorem c_c8 {T : TopF hb} (W : Tops hb T) : Callable T prog w (n + 1) "in_table_c8" (inG c8L) := by
  obtain ⟨a, o, m, hg, ho, hs, hm⟩ := W.set ("c8_set", c8L) (.tail _ (.tail _ (.tail _ (.head _))))
  refine W.fn (k := 19) (ps := ["code"]) (by decide) ⟨rfl, rfl, by decide, by decide, by decide⟩ rfl (fun _ _ vs h => by obtain ⟨a, rfl⟩ := len1 h rfl; kernel_rfl) (fun ds d ⟨c, h, _⟩ => by rw [h]; rfl) (fun A L f pm cd ds d ⟨c, hds, hd⟩ => ?_)
  subst hds; subst hd
  exact EX.conv (EX.one (ST.ret (.inSet T (.callB T rfl W.ord (.cons (.name rfl) .nil) .ord) rfl hg ho hs hm))) (by rw [← inL_int])
theorem c_c9 {T : TopF hb} (W : Tops hb T) : Callable T prog w (n + 1) "in_table_c9" (inG c9L) := by
  obtain ⟨a, o, m, hg, ho, hs, hm⟩ := W.set ("c9_set", c9L) (.tail _ (.tail _ (.tail _ (.tail _ (.head _)))))
  refine W.fn (k := 21) (ps := ["code"]) (by decide) ⟨rfl, rfl, by decide, by decide, by decide⟩ rfl (fun _ _ vs h => by obtain ⟨a, rfl⟩ := len1 h rfl; kernel_rfl) (fun ds d ⟨c, h, _⟩ => by rw [h]; rfl) (fun A L f pm cd ds d ⟨c, hds, hd⟩ => ?_)
  subst hds; subst hd
  exact EX.conv (EX.one (ST.ret (.inSet T (.callB T rfl W.ord (.cons (.name rfl) .nil) .ord) rfl hg ho hs hm))) (by rw [← inL_int])

noncomputable def c4B (c : Nat) : Bool := if c < 64976 then false else if c < 65008 then true else [PyData.int 65534, .int 65535].any fun y => PyData.eqv y (.int (Builtin.bitAnd (c : Nat) 65535))
theorem c_c4 {T : TopF hb} (W : Tops hb T) : Callable T prog w (n + 1) "in_table_c4" (fun ds d => ∃ c : Nat, ds = [.str ⟨#[c]⟩] ∧ d = .bool (c4B c)) := by
  refine W.fn (k := 13) (ps := ["code"]) (by decide) ⟨rfl, rfl, by decide, by decide, by decide⟩ rfl (fun _ _ vs h => by obtain ⟨a, rfl⟩ := len1 h rfl; kernel_rfl) (fun ds d ⟨c, h, _⟩ => by rw [h]; rfl) (fun A L f pm cd ds d ⟨c, hds, hd⟩ => ?_)
  subst hds; subst hd
  refine EX.cons (ST.assign (.callB T rfl W.ord (.cons (.name rfl) .nil) .ord) (.inl rfl) noOwn) ?_
  have e1 : decide (((c : Nat) : Int) < 64976) = decide (c < 64976) := by rw [decide_eq_decide]; omega
  have e2 : decide (((c : Nat) : Int) < 65008) = decide (c < 65008) := by rw [decide_eq_decide]; omega
  by_cases h1 : c < 64976
  · refine EX.consRet (ST.if_ (b := true) (EB.conv (.cmp (.name rfl) .int .ltInt) (by rw [e1]; simpa using h1)) (fun _ => EX.conv (EX.one (ST.ret .boolc)) ?_) (fun h => nomatch h))
    unfold c4B; rw [if_pos h1]
  · refine EX.cons (ST.if_ (b := false) (EB.conv (.cmp (.name rfl) .int .ltInt) (by rw [e1]; simpa using h1)) (fun h => nomatch h) (fun _ => .nil)) ?_
    by_cases h2 : c < 65008
    · refine EX.consRet (ST.if_ (b := true) (EB.conv (.cmp (.name rfl) .int .ltInt) (by rw [e2]; simpa using h2)) (fun _ => EX.conv (EX.one (ST.ret .boolc)) ?_) (fun h => nomatch h))
      unfold c4B; rw [if_neg h1, if_pos h2]
    · refine EX.cons (ST.if_ (b := false) (EB.conv (.cmp (.name rfl) .int .ltInt) (by rw [e2]; simpa using h2)) (fun h => nomatch h) (fun _ => .nil)) ?_
      refine EX.conv (EX.one (ST.ret (.cmp (.band (.callB T rfl W.ord (.cons (.name rfl) .nil) .ord) .int) (.tuple (.cons .int (.cons .int .nil))) (.inTuple rfl rfl (Nat.le_of_ble_eq_true rfl))))) ?_
      unfold c4B; rw [if_neg h1, if_neg h2]

/-- the six judges -/
noncomputable def tabs (c : Nat) : List Bool := [inL b1L c, c4B c, inL c6L c, inL c7L c, inL c8L c, inL c9L c]
theorem tabs_sgn : ∀ t, t < 6 → ∀ p, p < 4 → tabs (codeOf t p) = (List.range 6).map (fun i => decide (i = t)) := by decide +kernel
end
end Mine

namespace Mine
open PySem PySem.Calls PyProof.Rows
section
variable {prog : Program} {w : World} {hb : Heap} {n : Nat} {A : Around} {env : Env} {ρ : Rho} {ω : Omega}

theorem EV.fmodN {l r : Expr} {pos : Pos} {a b : Nat} (hl : EV prog w hb n A env ρ ω l (.int a)) (hr : EV prog w hb n A env ρ ω r (.int b)) (h0 : 0 < b) : EV prog w hb n A env ρ ω (.BinOp l .Mod r pos) (.int (a % b : Nat)) :=
  .conv (.fmod hl hr (by omega)) (by rw [fmod_nat])
theorem EV.fdivN {l r : Expr} {pos : Pos} {a b : Nat} (hl : EV prog w hb n A env ρ ω l (.int a)) (hr : EV prog w hb n A env ρ ω r (.int b)) (h0 : 0 < b) (h1 : b < 1000000000) : EV prog w hb n A env ρ ω (.BinOp l .FloorDiv r pos) (.int (a / b : Nat)) :=
  .conv (.fdiv hl hr (by omega) (ndiv h1)) (by rw [fdiv_nat])
theorem EV.addN {l r : Expr} {pos : Pos} {a b : Nat} (hl : EV prog w hb n A env ρ ω l (.int a)) (hr : EV prog w hb n A env ρ ω r (.int b)) : EV prog w hb n A env ρ ω (.BinOp l .Add r pos) (.int (a + b : Nat)) :=
  .conv (.add hl hr) (by rw [Int.natCast_add])

noncomputable def ticks (c : Nat) : Str := ⟨Array.replicate c 39⟩
noncomputable def cal (m : Nat) : Nat := m % 6
noncomputable def cld (m : Nat) : Nat := (m % 6 + 1 + m / 6 % 5) % 6
noncomputable def cnt (m : Nat) : Nat := 1 + m / 30 % 4
theorem cal_lt (m : Nat) : cal m < 6 := Nat.mod_lt _ (by decide)
theorem cld_lt (m : Nat) : cld m < 6 := Nat.mod_lt _ (by decide)
theorem cnt_le (m : Nat) : 1 ≤ cnt m ∧ cnt m ≤ 4 := by have := Nat.mod_lt (m / 30) (show 4 > 0 by decide); unfold cnt; omega
theorem cal_ne (m : Nat) : cal m ≠ cld m := by
  have := Nat.mod_lt m (show 6 > 0 by decide)
  have := Nat.mod_lt (m / 6) (show 5 > 0 by decide)
  unfold cal cld; omega
theorem mul_ticks : ∀ c : Nat, c < 5 → Txt.mul "'" (c : Int) = ticks c := by decide +kernel
noncomputable def partsD (m : Nat) : PyData := .list [.str (sgn (cal m) (m / 120 % 4)), .str (sgn (cld m) (m / 480 % 4)), .str (ticks (cnt m))]

theorem c_parts {T : TopF hb} (W : Tops hb T) : Callable T prog w (n + 2) "_law_parts" (fun ds d => ∃ m : Nat, ds = [.int m] ∧ d = partsD m) := by
  refine W.fn (k := 25) (ps := ["number"]) (by decide) ⟨rfl, rfl, by decide, by decide, by decide⟩ rfl (fun _ _ vs h => by obtain ⟨a, rfl⟩ := len1 h rfl; kernel_rfl) (fun ds d ⟨c, h, _⟩ => by rw [h]; rfl) (fun A L f pm cd ds d ⟨m, hds, hd⟩ => ?_)
  subst hds; subst hd
  refine EX.cons (ST.unpack (.call T (c_call W (n := n)) rfl (Nat.le_refl _) (.cons (.name rfl) .nil) ⟨m, rfl, rfl⟩) (.tupleT (.cons (.inl rfl) noOwn (.cons (.inl rfl) noOwn (.cons (.inl rfl) noOwn .nil))))) ?_
  have s1 := c_sign (prog := prog) (w := w) (n := n) W
  have hq : ∀ c : Nat, c < 5 → MulOk "'" (c : Int) := by
    intro c hc
    match c, hc with
    | 0, _ => unfold MulOk; exact ⟨by decide +kernel, by decide +kernel, by decide +kernel⟩
    | 1, _ => unfold MulOk; exact ⟨by decide +kernel, by decide +kernel, by decide +kernel⟩
    | 2, _ => unfold MulOk; exact ⟨by decide +kernel, by decide +kernel, by decide +kernel⟩
    | 3, _ => unfold MulOk; exact ⟨by decide +kernel, by decide +kernel, by decide +kernel⟩
    | 4, _ => unfold MulOk; exact ⟨by decide +kernel, by decide +kernel, by decide +kernel⟩
  have hc4 : cnt m < 5 := by have := cnt_le m; omega
  refine EX.conv (EX.one (ST.ret (.list (.cons (.call T s1 rfl (Nat.le_refl _) (.cons (.name rfl) (.cons (.fmodN (b := 4) (.fdivN (b := 120) (.name rfl) .int (by decide) (by decide)) .int (by decide)) .nil)) ⟨cal m, m / 120 % 4, cal_lt m, Nat.mod_lt _ (by decide), rfl, rfl⟩)
    (.cons (.call T s1 rfl (Nat.le_refl _) (.cons (.name rfl) (.cons (.fmodN (b := 4) (.fdivN (b := 480) (.name rfl) .int (by decide) (by decide)) .int (by decide)) .nil)) ⟨cld m, m / 480 % 4, cld_lt m, Nat.mod_lt _ (by decide), rfl, rfl⟩)
    (.cons (.mulStr (k := cnt m) .strc (.name rfl) (hq _ hc4)) .nil)))))) ?_
  rw [mul_ticks _ hc4]; rfl

/-- which table holds the sign -/
theorem c_table {T : TopF hb} (W : Tops hb T) : Callable T prog w (n + 2) "_law_table" (fun ds d => ∃ t p : Nat, t < 6 ∧ p < 4 ∧ ds = [.str (sgn t p)] ∧ d = .int t) := by
  refine W.fn (k := 26) (ps := ["sign"]) (by decide) ⟨rfl, rfl, by decide, by decide, by decide⟩ rfl (fun _ _ vs h => by obtain ⟨a, rfl⟩ := len1 h rfl; kernel_rfl) (fun ds d ⟨_, _, _, _, h, _⟩ => by rw [h]; rfl) (fun A L f pm cd ds d ⟨t, p, ht, hp, hds, hd⟩ => ?_)
  subst hds; subst hd
  have hm : n + 1 ≤ n + 1 := Nat.le_refl _
  refine EX.cons (ST.assign (d := .list ((tabs (codeOf t p)).map .bool)) (.list (.cons (.call T (c_b1 W) rfl hm (.cons (.name rfl) .nil) ⟨_, rfl, rfl⟩) (.cons (.call T (c_c4 W) rfl hm (.cons (.name rfl) .nil) ⟨_, rfl, rfl⟩) (.cons (.call T (c_c6 W) rfl hm (.cons (.name rfl) .nil) ⟨_, rfl, rfl⟩)
    (.cons (.call T (c_c7 W) rfl hm (.cons (.name rfl) .nil) ⟨_, rfl, rfl⟩) (.cons (.call T (c_c8 W) rfl hm (.cons (.name rfl) .nil) ⟨_, rfl, rfl⟩) (.cons (.call T (c_c9 W) rfl hm (.cons (.name rfl) .nil) ⟨_, rfl, rfl⟩) .nil))))))) (.inl rfl) noOwn) ?_
  rw [tabs_sgn t ht p hp]
  have hen : enumD (((List.range 6).map fun i => decide (i = t)).map PyData.bool) = (List.range 6).map fun i => .tuple [.int i, .bool (decide (i = t))] := by
    rw [show ((List.range 6).map fun i => decide (i = t)).map PyData.bool = (List.range 6).map fun i => PyData.bool (decide (i = t)) by rw [List.map_map]; rfl]
    rfl
  refine EX.cons (ST.assignComp (ρc := []) (ys := [.int t]) rfl (EI.enum T rfl W.enum (.cons (.name rfl) .nil)) (.of rfl rfl rfl (by decide)) .nil (fun C => ?_) (Nat.le_of_ble_eq_true rfl) (.inl rfl) noOwn) ?_
  · rw [hen]
    refine CL.conv (CL.fm (f := fun i : Nat => PyData.tuple [.int i, .bool (decide (i = t))]) (g := fun i : Nat => if i = t then some (.int i) else none) (fun it acc => turn_one _ _ _ _ _ _ it acc _) (List.range 6) (fun i _ => ⟨_, .tupleT (.cons rfl (.cons rfl .nil)), sub_new (sub_new sub_refl rfl) rfl, .one (EB.conv (.cmp (.name rfl) .boolc .isNotBool) (by by_cases h : i = t <;> simp [h])), fun v hv => ?_⟩)) ?_
    · by_cases h : i = t
      · rw [if_pos h] at hv; cases hv; exact .name rfl
      · rw [if_neg h] at hv; cases hv
    · match t, ht with
      | 0, _ => rfl
      | 1, _ => rfl
      | 2, _ => rfl
      | 3, _ => rfl
      | 4, _ => rfl
      | 5, _ => rfl
  · refine EX.one (ST.ret (.ite (c := true) (EB.conv (.and2 (.cmp (.callB T rfl W.len (.cons (.name rfl) .nil) (.lenL (Nat.le_of_ble_eq_true rfl))) .int .eqInt) fun _ => .cmp (.itemL (EV.toR (.name rfl)) (.itemL (EV.toR (.name rfl)) .int (by decide) (by decide) rfl) (Int.natCast_nonneg _) (by omega) (d := .bool true) ?_) .boolc .isBool) rfl) (fun _ => .itemL (EV.toR (.name rfl)) .int (by decide) (by decide) rfl) (fun h => nomatch h)))
    match t, ht with
    | 0, _ => rfl
    | 1, _ => rfl
    | 2, _ => rfl
    | 3, _ => rfl
    | 4, _ => rfl
    | 5, _ => rfl
end
end Mine

namespace Mine
open PySem PySem.Calls PyProof.Rows
section
variable {prog : Program} {w : World} {hb : Heap} {n : Nat} {A : Around} {env : Env} {ρ : Rho} {ω : Omega}

theorem EX.cast {sts : List Stmt} {out out' : Out} (h : EX prog w hb n A env ρ ω sts out) (e : out = out') : EX prog w hb n A env ρ ω sts out' := e ▸ h
theorem ST.cast {st : Stmt} {out out' : Out} (h : ST prog w hb n A env ρ ω st out) (e : out = out') : ST prog w hb n A env ρ ω st out' := e ▸ h

theorem EI.conv {tt x : Expr} {xs ys : List PyData} (h : EI prog w hb n A env ρ ω tt x xs) (e : xs = ys) : EI prog w hb n A env ρ ω tt x ys := e ▸ h
noncomputable def lineS (m : Nat) : Str := Txt.join "'" [sgn (cal m) (m / 120 % 4), sgn (cld m) (m / 480 % 4), ticks (cnt m)]
theorem all_at {k : Nat} {f : Nat → Bool} (h : (List.range k).all f = true) {i : Nat} (hi : i < k) : f i = true := List.all_eq_true.mp h i (List.mem_range.mpr hi)
theorem kind_one (x : Str) : decide (Builtin.Str.strKind x < Builtin.Str.strKind ⟨#[39]⟩) = false := by
  have : Builtin.Str.strKind ⟨#[39]⟩ = 1 := by decide +kernel
  rw [this, decide_eq_false_iff_not]
  unfold Builtin.Str.strKind
  split
  · omega
  · split <;> omega
theorem tickA : ("'" : Str) = ⟨#[39]⟩ := by decide +kernel
theorem split_of {x : Str} {ps : List Str} {os : List Nat} (hl : decide (x.length < 1) = false) (ho : Builtin.Str.occurrences x ⟨#[39]⟩ 0 x.length 2 = os) (hn : os.isEmpty = false) (hp : Builtin.Str.partsBetween x os 1 = ps) : Txt.splitMax x "'" 2 = ps := by
  unfold Txt.splitMax
  rw [tickA, kind_one, show (⟨#[39]⟩ : Str).length = 1 from rfl, hl, show limitOf x 2 = 2 from rfl, ho, hn]
  exact hp
theorem split_gen {c1 c2 : Nat} (h1 : c1 ≠ 39) (h2 : c2 ≠ 39) : ∀ c, 1 ≤ c → c ≤ 4 → Txt.splitMax (Txt.join "'" [⟨#[c1]⟩, ⟨#[c2]⟩, ticks c]) "'" 2 = [⟨#[c1]⟩, ⟨#[c2]⟩, ticks c] ∧ (Txt.join "'" [⟨#[c1]⟩, ⟨#[c2]⟩, ticks c]).length ≤ 100 ∧ JoinOk "'" [⟨#[c1]⟩, ⟨#[c2]⟩, ticks c] = true := by
  intro c hc hc4
  rw [tickA]
  match c, hc, hc4 with
  | 1, _, _ =>
    rw [show Txt.join ⟨#[39]⟩ [⟨#[c1]⟩, ⟨#[c2]⟩, ticks 1] = ⟨#[c1, 39, c2, 39, 39]⟩ from rfl, ← tickA]
    exact ⟨split_of (os := [1, 3]) rfl (by simp [Builtin.Str.occurrences, Builtin.Str.subAt, Str.length, h1, h2, List.range'_succ]) rfl rfl, Nat.le_of_ble_eq_true rfl, by rw [tickA]; rfl⟩
  | 2, _, _ =>
    rw [show Txt.join ⟨#[39]⟩ [⟨#[c1]⟩, ⟨#[c2]⟩, ticks 2] = ⟨#[c1, 39, c2, 39, 39, 39]⟩ from rfl, ← tickA]
    exact ⟨split_of (os := [1, 3]) rfl (by simp [Builtin.Str.occurrences, Builtin.Str.subAt, Str.length, h1, h2, List.range'_succ]) rfl rfl, Nat.le_of_ble_eq_true rfl, by rw [tickA]; rfl⟩
  | 3, _, _ =>
    rw [show Txt.join ⟨#[39]⟩ [⟨#[c1]⟩, ⟨#[c2]⟩, ticks 3] = ⟨#[c1, 39, c2, 39, 39, 39, 39]⟩ from rfl, ← tickA]
    exact ⟨split_of (os := [1, 3]) rfl (by simp [Builtin.Str.occurrences, Builtin.Str.subAt, Str.length, h1, h2, List.range'_succ]) rfl rfl, Nat.le_of_ble_eq_true rfl, by rw [tickA]; rfl⟩
  | 4, _, _ =>
    rw [show Txt.join ⟨#[39]⟩ [⟨#[c1]⟩, ⟨#[c2]⟩, ticks 4] = ⟨#[c1, 39, c2, 39, 39, 39, 39, 39]⟩ from rfl, ← tickA]
    exact ⟨split_of (os := [1, 3]) rfl (by simp [Builtin.Str.occurrences, Builtin.Str.subAt, Str.length, h1, h2, List.range'_succ]) rfl rfl, Nat.le_of_ble_eq_true rfl, by rw [tickA]; rfl⟩
theorem sgn_ne : ((List.range 6).all fun t => (List.range 4).all fun p => codeOf t p != 39) = true := by decide +kernel
theorem split_line (m : Nat) : Txt.splitMax (lineS m) "'" 2 = [sgn (cal m) (m / 120 % 4), sgn (cld m) (m / 480 % 4), ticks (cnt m)] ∧ (lineS m).length ≤ 100 ∧ JoinOk "'" [sgn (cal m) (m / 120 % 4), sgn (cld m) (m / 480 % 4), ticks (cnt m)] = true := by
  have h := cnt_le m
  have h1 := all_at (all_at sgn_ne (cal_lt m)) (Nat.mod_lt (m / 120) (show 4 > 0 by decide))
  have h2 := all_at (all_at sgn_ne (cld_lt m)) (Nat.mod_lt (m / 480) (show 4 > 0 by decide))
  exact split_gen (by simpa using h1) (by simpa using h2) (cnt m) h.1 h.2

theorem c_decode {T : TopF hb} (W : Tops hb T) : Callable T prog w (n + 1) "decode_rfc2231" (fun ds d => ∃ m : Nat, ds = [.str (lineS m)] ∧ d = partsD m) := by
  refine W.fn (k := 5) (ps := ["s"]) (by decide) ⟨rfl, rfl, by decide, by decide, by decide⟩ rfl (fun _ _ vs h => by obtain ⟨a, rfl⟩ := len1 h rfl; kernel_rfl) (fun ds d ⟨c, h, _⟩ => by rw [h]; rfl) (fun A L f pm cd ds d ⟨m, hds, hd⟩ => ?_)
  subst hds; subst hd
  obtain ⟨t, ht⟩ := W.tick
  obtain ⟨h1, h2, _⟩ := split_line m
  refine EX.cons (ST.assign (d := partsD m) (.conv (.methS F.slot_str_split F.type_str_split (.name rfl) (.cons (.glob T rfl ht (fun _ _ => .str _ _)) (.cons .int .nil)) (.split (by decide) (by decide) (by omega))) (by rw [h1]; rfl)) (.inl rfl) noOwn) ?_
  refine EX.cons (ST.if_ (b := false) (EB.conv (.cmp (.callB T rfl W.len (.cons (.name rfl) .nil) (.lenL (Nat.le_of_ble_eq_true rfl))) .int .leInt) rfl) (fun h => nomatch h) (fun _ => .nil)) ?_
  exact EX.one (ST.ret (.name rfl))

noncomputable def dictI (l : List (Int × Int)) : PyData := dictD (l.map fun p => (p.1, .int p.2))

theorem c_count {T : TopF hb} (W : Tops hb T) : Callable T prog w (n + 1) "count_calls" (fun ds d => ∃ l : List (Int × Int), ds = [dictI l] ∧ d = .int (l.foldl (fun s p => s + p.2) 0)) := by
  refine W.fn (k := 9) (ps := ["callers"]) (by decide) ⟨rfl, rfl, by decide, by decide, by decide⟩ rfl (fun _ _ vs h => by obtain ⟨a, rfl⟩ := len1 h rfl; kernel_rfl) (fun ds d ⟨c, h, _⟩ => by rw [h]; rfl) (fun A L f pm cd ds d ⟨l, hds, hd⟩ => ?_)
  subst hds; subst hd
  refine EX.cons (ST.assign .int (.inl rfl) noOwn) ?_
  refine EX.cons (ST.for_ (EI.conv (ys := l.map fun p => PyData.int p.2) (EI.values (.name rfl)) (by rw [List.map_map]; rfl)) (FL.inv (f := fun p : Int × Int => PyData.int p.2) (fun _ _ => True) (fun s : Int => [("nc", .int s), ("callers", dictI l)]) (fun _ => []) (fun s p => s + p.2) l 0 0 trivial (fun j s a _ _ => ⟨trivial, _, _, .name (.inl rfl) noOwn, EX.one (ST.augAdd rfl (.name rfl) (.inl rfl) noOwn), .cons rfl (.cons rfl .nil)⟩))) ?_
  exact EX.one (ST.ret (.name rfl))
end
end Mine

namespace Mine
open PySem PySem.Calls PyProof.Rows
section
variable {prog : Program} {w : World} {hb : Heap} {n : Nat} {A : Around} {env : Env} {ρ : Rho} {ω : Omega}

/-- a dictionary of ints takes another's rows, added -/
noncomputable def addOne (l : List (Int × Int)) (p : Int × Int) : List (Int × Int) := aset l p.1 (match aget l p.1 with | some v => v + p.2 | none => p.2)
noncomputable def putOne (l : List (Int × Int)) (p : Int × Int) : List (Int × Int) := aset l p.1 p.2
noncomputable def merge (t s : List (Int × Int)) : List (Int × Int) := s.foldl addOne (t.foldl putOne [])
theorem addOne_len (l : List (Int × Int)) (p : Int × Int) : (addOne l p).length ≤ l.length + 1 := aset_len _ _ _
theorem putOne_len (l : List (Int × Int)) (p : Int × Int) : (putOne l p).length ≤ l.length + 1 := aset_len _ _ _
theorem foldl_put_len : ∀ (t l : List (Int × Int)), (t.foldl putOne l).length ≤ l.length + t.length
  | [], l => Nat.le_refl _
  | p :: t, l => by
    have := foldl_put_len t (putOne l p)
    have := putOne_len l p
    simp only [List.foldl_cons, List.length_cons]; omega

theorem dsetI (l : List (Int × Int)) (k v : Int) : dictD (dset (l.map fun p => (p.1, PyData.int p.2)) k (.int v)) = dictI (aset l k v) := by
  unfold dictI
  rw [dset_map PyData.int]
theorem dgetI (l : List (Int × Int)) (k : Int) : dget (l.map fun p => (p.1, PyData.int p.2)) k = (aget l k).map .int := dget_map PyData.int l k

theorem c_addc {T : TopF hb} (W : Tops hb T) : Callable T prog w (n + 1) "add_callers" (fun ds d => ∃ t s : List (Int × Int), t.length + s.length ≤ 1000 ∧ ds = [dictI t, dictI s] ∧ d = dictI (merge t s)) := by
  refine W.fn (k := 8) (ps := ["target", "source"]) (by decide) ⟨rfl, rfl, by decide, by decide, by decide⟩ rfl (fun _ _ vs h => by obtain ⟨a, b, rfl⟩ := len2 h rfl; kernel_rfl) (fun ds d ⟨_, _, _, h, _⟩ => by rw [h]; rfl) (fun A L f pm cd ds d ⟨t, s, hl, hds, hd⟩ => ?_)
  subst hds; subst hd
  refine EX.newDict T (.inl rfl) rfl noOwn fun a => ?_
  refine EX.cons (ST.for_ (EI.conv (ys := t.map fun p => PyData.tuple [.int p.1, .int p.2]) (EI.items (.name rfl)) (by rw [List.map_map]; rfl)) (FL.inv (f := fun p : Int × Int => PyData.tuple [.int p.1, .int p.2]) (fun i l => l.length ≤ i) (fun _ => [("target", dictI t), ("source", dictI s)]) (fun l => [("new_callers", a, dictI l)]) putOne t 0 [] (Nat.le_refl _)
    (fun j l p hj hP => ⟨by have := putOne_len l p; omega, _, _, .tupleT (.cons (.inl rfl) (ap1 (by decide)) (.cons (.inl rfl) (ap1 (by decide)) .nil)), EX.one (ST.cast (ST.setItem (.name rfl) (.name rfl) ?_) (by rw [dsetI]; rfl)), .cons rfl (.cons rfl .nil)⟩))) ?_
  · have := (List.getElem?_eq_some_iff.mp hj).1
    simp; omega
  refine EX.cons (ST.for_ (EI.conv (ys := s.map fun p => PyData.tuple [.int p.1, .int p.2]) (EI.items (.name rfl)) (by rw [List.map_map]; rfl)) (FL.inv (f := fun p : Int × Int => PyData.tuple [.int p.1, .int p.2]) (fun i l => l.length ≤ t.length + i) (fun _ => [("target", dictI t), ("source", dictI s)]) (fun l => [("new_callers", a, dictI l)]) addOne s 0 (t.foldl putOne []) (by have := foldl_put_len t []; simpa using this)
    (fun j l p hj hP => ⟨by have := addOne_len l p; omega, _, [("caller", .int p.2), ("func", .int p.1), ("target", dictI t), ("source", dictI s)], .tupleT (.cons (.inl rfl) (ap1 (by decide)) (.cons (.inl rfl) (ap1 (by decide)) .nil)), EX.one ?_, .cons rfl (.cons rfl .nil)⟩))) ?_
  · have hj' := (List.getElem?_eq_some_iff.mp hj).1
    have hz : (l.map fun p => (p.1, PyData.int p.2)).length ≤ 1000000 := by simp; omega
    cases hg : aget l p.1 with
    | none =>
      refine ST.cast (ST.if_ (b := false) (EB.conv (.inD (.name rfl) (.own rfl)) (by rw [dgetI, hg]; rfl)) (fun h => nomatch h) (fun _ => EX.one (ST.setItem (.name rfl) (.name rfl) hz))) ?_
      rw [dsetI]; unfold addOne; rw [hg]
    | some v =>
      refine ST.cast (ST.if_ (b := true) (EB.conv (.inD (.name rfl) (.own rfl)) (by rw [dgetI, hg]; rfl)) (fun _ => EX.one (ST.if_ (b := false) (.isTuple T rfl rfl W.isi W.tuple (.name rfl)) (fun h => nomatch h) (fun _ => EX.one (ST.augItem (c := v) (.name rfl) (.name rfl) (by rw [dgetI, hg]; rfl) hz)))) (fun h => nomatch h)) ?_
      rw [dsetI]; unfold addOne; rw [hg]
  exact EX.one (ST.retOwn rfl)
end
end Mine

namespace Mine
open PySem PySem.Calls PyProof.Rows

structure Ent where
  cc : Int
  nc : Int
  tt : Int
  ct : Int
  cal : List (Int × Int)
noncomputable def Ent.zero : Ent := ⟨0, 0, 0, 0, []⟩
noncomputable def Ent.plus (s t : Ent) : Ent := ⟨s.cc + t.cc, s.nc + t.nc, s.tt + t.tt, s.ct + t.ct, merge t.cal s.cal⟩
noncomputable def entD (e : Ent) : PyData := .tuple [.int e.cc, .int e.nc, .int e.tt, .int e.ct, dictI e.cal]
noncomputable def profD (P : List (Int × Ent)) : PyData := dictD (P.map fun p => (p.1, entD p.2))
theorem dsetP (P : List (Int × Ent)) (k : Int) (e : Ent) : dictD (dset (P.map fun p => (p.1, entD p.2)) k (entD e)) = profD (aset P k e) := by
  unfold profD
  rw [dset_map entD]
theorem dgetP (P : List (Int × Ent)) (k : Int) : dget (P.map fun p => (p.1, entD p.2)) k = (aget P k).map entD := dget_map entD P k

section
variable {prog : Program} {w : World} {hb : Heap} {n : Nat} {A : Around} {env : Env} {ρ : Rho} {ω : Omega}

theorem c_adds {T : TopF hb} (W : Tops hb T) : Callable T prog w (n + 2) "add_func_stats" (fun ds d => ∃ t s : Ent, t.cal.length + s.cal.length ≤ 1000 ∧ ds = [entD t, entD s] ∧ d = entD (s.plus t)) := by
  refine W.fn (k := 7) (ps := ["target", "source"]) (by decide) ⟨rfl, rfl, by decide, by decide, by decide⟩ rfl (fun _ _ vs h => by obtain ⟨a, b, rfl⟩ := len2 h rfl; kernel_rfl) (fun ds d ⟨_, _, _, h, _⟩ => by rw [h]; rfl) (fun A L f pm cd ds d ⟨t, s, hl, hds, hd⟩ => ?_)
  subst hds; subst hd
  refine EX.cons (ST.unpack (.name (d := entD s) rfl) (.tupleT (.cons (.inl rfl) noOwn (.cons (.inl rfl) noOwn (.cons (.inl rfl) noOwn (.cons (.inl rfl) noOwn (.cons (.inl rfl) noOwn .nil))))))) ?_
  refine EX.cons (ST.unpack (.name (d := entD t) rfl) (.tupleT (.cons (.inl rfl) noOwn (.cons (.inl rfl) noOwn (.cons (.inl rfl) noOwn (.cons (.inl rfl) noOwn (.cons (.inl rfl) noOwn .nil))))))) ?_
  refine EX.conv (EX.one (ST.ret (.tuple (.cons (.add (.name rfl) (.name rfl)) (.cons (.add (.name rfl) (.name rfl)) (.cons (.add (.name rfl) (.name rfl)) (.cons (.add (.name rfl) (.name rfl)) (.cons (.call T (c_addc (n := n) W) rfl (Nat.le_refl _) (.cons (.name rfl) (.cons (.name rfl) .nil)) ⟨t.cal, s.cal, hl, rfl, rfl⟩) .nil)))))))) ?_
  rfl

/-- the net count of two tables -/
noncomputable def callsOf (P : List (Int × Ent)) (to fr : Int) : Int := match aget P to with | some e => (aget e.cal fr).getD 0 | none => 0
noncomputable def netOf (P : List (Int × Ent)) (one other : Int) : Int := callsOf P one other - callsOf P other one
theorem getD_map (o : Option Int) : (o.map PyData.int).getD (.int 0) = .int (o.getD 0) := by cases o <;> rfl

theorem c_net {T : TopF hb} (W : Tops hb T) : Callable T prog w (n + 1) "_law_net" (fun ds d => ∃ (P : List (Int × Ent)) (a b : Int), ds = [profD P, .int a, .int b] ∧ d = .int (netOf P a b)) := by
  refine W.fn (k := 30) (ps := ["profile", "one", "other"]) (by decide) ⟨rfl, rfl, by decide, by decide, by decide⟩ rfl (fun _ _ vs h => by obtain ⟨a, b, c, rfl⟩ := len3 h rfl; kernel_rfl) (fun ds d ⟨_, _, _, h, _⟩ => by rw [h]; rfl) (fun A L f pm cd ds d ⟨P, a, b, hds, hd⟩ => ?_)
  subst hds; subst hd
  refine EX.cons (ST.assign (d := .int (callsOf P a b)) ?_ (.inl rfl) noOwn) ?_
  · cases hg : aget P a with
    | none => exact .ite (c := false) (EB.conv (.inD (.name rfl) (EV.toR (.name rfl))) (by rw [dgetP, hg]; rfl)) (fun h => nomatch h) (fun _ => .conv .int (by unfold callsOf; rw [hg]))
    | some e => exact .ite (c := true) (EB.conv (.inD (.name rfl) (EV.toR (.name rfl))) (by rw [dgetP, hg]; rfl)) (fun _ => .conv (.dictGet (EV.toR (.itemT (d := dictI e.cal) (.itemD (d := entD e) (EV.toR (.name rfl)) (.name rfl) (by rw [dgetP, hg]; rfl)) .int (by decide) (by decide) rfl)) (.cons (.name rfl) (.cons .int .nil))) (by unfold callsOf; rw [hg, dgetI]; exact getD_map _)) (fun h => nomatch h)
  · refine EX.one (ST.ret ?_)
    cases hg : aget P b with
    | none => exact .ite (c := false) (EB.conv (.inD (.name rfl) (EV.toR (.name rfl))) (by rw [dgetP, hg]; rfl)) (fun h => nomatch h) (fun _ => .conv (.name rfl) (by unfold netOf; rw [show callsOf P b a = 0 by unfold callsOf; rw [hg]]; simp))
    | some e => exact .ite (c := true) (EB.conv (.inD (.name rfl) (EV.toR (.name rfl))) (by rw [dgetP, hg]; rfl)) (fun _ => .conv (.sub (a := callsOf P a b) (b := (aget e.cal a).getD 0) (.name rfl) (.conv (.dictGet (EV.toR (.itemT (d := dictI e.cal) (.itemD (d := entD e) (EV.toR (.name rfl)) (.name rfl) (by rw [dgetP, hg]; rfl)) .int (by decide) (by decide) rfl)) (.cons (.name rfl) (.cons .int .nil))) (by rw [dgetI]; exact getD_map _))) (by unfold netOf; rw [show callsOf P b a = (aget e.cal a).getD 0 by conv => lhs; unfold callsOf; rw [hg]])) (fun h => nomatch h)
end
end Mine

namespace Mine
open PySem PySem.Calls PyProof.Rows

theorem bits_lt {m : Nat} {x : Int} (h : x.natAbs < 2 ^ m) : Builtin.Int.intBits x ≤ m := by
  unfold Builtin.Int.intBits
  by_cases h0 : x = 0
  · simp [h0]
  · have h1 : x.natAbs ≠ 0 := by omega
    have : (x == 0) = false := by simpa using h0
    rw [this]
    simp only [Bool.false_eq_true, if_false]
    exact (Nat.log2_lt h1).mpr h
theorem mulOk {a b : Int} (h : b.natAbs < 2 ^ 64) : IntMulOk a b := .of_right (bits_lt h)

section
variable {prog : Program} {w : World} {hb : Heap} {n : Nat} {A : Around} {env : Env} {ρ : Rho} {ω : Omega} {s₀ s : Shared} {S₀ Wt : ASet}

theorem EV.dict0 (T : TopF hb) {pos : Pos} : EV prog w hb n A env ρ ω (.Dict [] [] pos) (dictD []) := .mk fun s₀ S₀ Wt s Q E x hQ =>
  wpAny_Dict_empty (hQ _ _ Go.push (.dictIs (es := []) (n := 0) (fun q => by
    obtain ⟨o, e⟩ := x.bd q
    rw [fresh_size] at e; cases e) (x.sysm T (Nat.le_refl _)) (Heap.get?_push_size _ rfl) ⟨rfl, List.nodup_nil, fun i e kv q => by simp at q⟩))
theorem EV.mulN {l r : Expr} {pos : Pos} {a b : Nat} (hl : EV prog w hb n A env ρ ω l (.int a)) (hr : EV prog w hb n A env ρ ω r (.int b)) (hb' : b < 2 ^ 64) : EV prog w hb n A env ρ ω (.BinOp l .Mult r pos) (.int (a * b : Nat)) :=
  .conv (.mul hl hr (mulOk (by simpa using hb'))) (by rw [Int.natCast_mul])

theorem nodup1 {a : Int × PyData} : ([a].map (·.1)).Nodup := by simp
/-- the profile of the calls -/
noncomputable def entOf (p : Nat × Nat) : Ent := ⟨1, cnt p.1, p.2, (p.2 * cnt p.1 : Nat), [((cal p.1 : Nat), (cnt p.1 : Nat))]⟩
noncomputable def pstep (P : List (Int × Ent)) (p : Nat × Nat) : List (Int × Ent) := aset P (cld p.1 : Nat) ((entOf p).plus ((aget P (cld p.1 : Nat)).getD .zero))
noncomputable def profOf (ms : List Nat) : List (Int × Ent) := ms.zipIdx.foldl pstep []

theorem merge_len (t s : List (Int × Int)) : (merge t s).length ≤ t.length + s.length := by
  unfold merge
  have h : ∀ (s l : List (Int × Int)), (s.foldl addOne l).length ≤ l.length + s.length := by
    intro s
    induction s with
    | nil => intro l; exact Nat.le_refl _
    | cons p s ih =>
      intro l
      have h1 := ih (addOne l p)
      have h2 := addOne_len l p
      simp only [List.foldl_cons, List.length_cons]; omega
  have h1 := h s (t.foldl putOne [])
  have h2 := foldl_put_len t []
  simp only [List.length_nil] at h2
  omega

theorem c_profile {T : TopF hb} (W : Tops hb T) : Callable T prog w (n + 3) "_law_profile" (fun ds d => ∃ ms : List Nat, ms.length ≤ 100 ∧ ds = [.list (ms.map partsD)] ∧ d = profD (profOf ms)) := by
  refine W.fn (k := 27) (ps := ["lines"]) (by decide) ⟨rfl, rfl, by decide, by decide, by decide⟩ rfl (fun _ _ vs h => by obtain ⟨a, rfl⟩ := len1 h rfl; kernel_rfl) (fun ds d ⟨_, _, h, _⟩ => by rw [h]; rfl) (fun A L f pm cd ds d ⟨ms, hl, hds, hd⟩ => ?_)
  subst hds; subst hd
  refine EX.newDict T (.inl rfl) rfl noOwn fun a => ?_
  refine EX.cons (ST.for_ (EI.conv (EI.enum T rfl W.enum (.cons (.name rfl) .nil)) (enumD_map partsD ms)) (FL.inv (f := fun p : Nat × Nat => PyData.tuple [.int p.2, partsD p.1]) (fun i (P : List (Int × Ent)) => P.length ≤ i ∧ ∀ k e, aget P k = some e → e.cal.length ≤ i) (fun _ => [("lines", .list (ms.map partsD))]) (fun P => [("profile", a, profD P)]) pstep ms.zipIdx 0 [] ⟨Nat.le_refl _, fun k e h => nomatch h⟩
    (fun j P p hj hP => ⟨?_, _, [("entry", entD (entOf p)), ("count", .int (cnt p.1 : Nat)), ("who", .int (cld p.1 : Nat)), ("ticks", .str (ticks (cnt p.1))), ("called", .str (sgn (cld p.1) (p.1 / 480 % 4))), ("caller", .str (sgn (cal p.1) (p.1 / 120 % 4))), ("line", partsD p.1), ("place", .int p.2), ("lines", .list (ms.map partsD))], .tupleT (.cons (.inl rfl) (ap1 (by decide)) (.cons (.inl rfl) (ap1 (by decide)) .nil)), ?_, .cons rfl .nil⟩))) ?_
  · have hlen : ((aget P (cld p.1 : Nat)).getD .zero).cal.length ≤ 0 + j := by
      cases hg : aget P ((cld p.1 : Nat) : Int) with
      | none => exact Nat.zero_le _
      | some e => exact hP.2 _ e hg
    refine ⟨?_, fun k e h => ?_⟩
    · have := aset_len P (cld p.1 : Nat) ((entOf p).plus ((aget P (cld p.1 : Nat)).getD .zero))
      have := hP.1
      unfold pstep; omega
    · unfold pstep at h
      rw [aget_aset] at h
      split at h
      · cases h
        have := merge_len ((aget P (cld p.1 : Nat)).getD .zero).cal (entOf p).cal
        have h1 : (entOf p).cal.length = 1 := rfl
        show (merge _ _).length ≤ _
        omega
      · have := hP.2 k e h
        omega
  · have hj' := (List.getElem?_eq_some_iff.mp hj).1
    rw [List.length_zipIdx] at hj'
    have hlen : ((aget P (cld p.1 : Nat)).getD .zero).cal.length ≤ 0 + j := by
      cases hg : aget P ((cld p.1 : Nat) : Int) with
      | none => exact Nat.zero_le _
      | some e => exact hP.2 _ e hg
    have hc := cnt_le p.1
    have htk : (ticks (cnt p.1)).length = cnt p.1 := by unfold ticks; exact Array.size_replicate
    refine EX.cons (ST.unpack (.name (d := partsD p.1) rfl) (.tupleL (.cons (.inl rfl) (ap1 (by decide)) (.cons (.inl rfl) (ap1 (by decide)) (.cons (.inl rfl) (ap1 (by decide)) .nil))))) ?_
    refine EX.cons (ST.assign (.call T (c_table (n := n) W) rfl (Nat.le_refl _) (.cons (.name rfl) .nil) ⟨cld p.1, p.1 / 480 % 4, cld_lt _, Nat.mod_lt _ (by decide), rfl, rfl⟩) (.inl rfl) (ap1 (by decide))) ?_
    refine EX.cons (ST.assign (d := .int (cnt p.1 : Nat)) (.conv (.callB T rfl W.len (.cons (.name rfl) .nil) (.lenS (by omega))) (by rw [htk])) (.inl rfl) (ap1 (by decide))) ?_
    refine EX.cons (ST.assign (d := entD (entOf p)) (.tuple (.cons .int (.cons (.name rfl) (.cons (.name rfl) (.cons (.mulN (.name rfl) (.name rfl) (by omega)) (.cons (.dict T (.cons (.call T (c_table (n := n) W) rfl (Nat.le_refl _) (.cons (.name rfl) .nil) ⟨cal p.1, p.1 / 120 % 4, cal_lt _, Nat.mod_lt _ (by decide), rfl, rfl⟩) (.name rfl) .nil) nodup1) .nil)))))) (.inl rfl) (ap1 (by decide))) ?_
    refine EX.one (ST.cast (ST.setItem (d := entD ((entOf p).plus ((aget P (cld p.1 : Nat)).getD .zero))) (.call T (c_adds (n := n) W) rfl (Nat.le_refl _) (.cons (.conv (d := ((dget (P.map fun p => (p.1, entD p.2)) (cld p.1 : Nat)).getD (entD .zero))) (.dictGet (.own rfl) (.cons (.name rfl) (.cons (.tuple (.cons .int (.cons .int (.cons .int (.cons .int (.cons (.dict0 T) .nil)))))) .nil))) ?_) (.cons (.name rfl) .nil)) ⟨(aget P (cld p.1 : Nat)).getD .zero, entOf p, by have h1 : (entOf p).cal.length = 1 := rfl; omega, rfl, rfl⟩) (.name rfl) (by have := hP.1; simp; omega)) ?_)
    · rw [dgetP]; cases aget P ((cld p.1 : Nat) : Int) <;> rfl
    · rw [dsetP]; rfl
  · exact EX.one (ST.retOwn rfl)
end
end Mine

namespace Mine
open PySem PySem.Calls PyProof.Rows

theorem lay_map {α : Type} {f : α → PyData} : ∀ (l : List α), (∀ a ∈ l, (f a).canLay0 = true) → PyData.canLayAll0 (l.map f) = true
  | [], _ => rfl
  | a :: r, h => by
    rw [List.map_cons, PyData.canLayAll0, h a (.head _), lay_map r fun b hb => h b (.tail _ hb)]; rfl
theorem eqv_nil {α : Type} {f : α → PyData} (l : List α) : PyData.eqv (.list (l.map f)) (.list []) = l.isEmpty := by
  cases l <;> simp [PyData.eqv, PyData.eqvAll]

noncomputable def ownD (p : Nat × Nat) : PyData := .tuple [.int p.2, .int (cal p.1 : Nat), .int (cnt p.1 : Nat)]
noncomputable def ownL (ms : List Nat) (who : Nat) : List (Nat × Nat) := ms.zipIdx.filter fun p => cld p.1 == who
noncomputable def cstep (l : List (Int × Int)) (p : Nat × Nat) : List (Int × Int) := aset l (cal p.1 : Nat) ((aget l (cal p.1 : Nat)).getD 0 + (cnt p.1 : Nat))
noncomputable def calOf (L : List (Nat × Nat)) : List (Int × Int) := L.foldl cstep []
noncomputable def ledEnt (L : List (Nat × Nat)) : Ent := ⟨L.length, ((calOf L).map (·.2)).sum, (L.map fun p => ((p.2 : Nat) : Int)).sum, (L.map fun p => ((p.2 * cnt p.1 : Nat) : Int)).sum, calOf L⟩
noncomputable def lstep (ms : List Nat) (P : List (Int × Ent)) (who : Nat) : List (Int × Ent) := if (ownL ms who).isEmpty then P else aset P who (ledEnt (ownL ms who))
noncomputable def ledgOf (ms : List Nat) : List (Int × Ent) := (List.range 6).foldl (lstep ms) []

theorem calOf_len : ∀ (L : List (Nat × Nat)) (l : List (Int × Int)), (L.foldl cstep l).length ≤ l.length + L.length
  | [], l => Nat.le_refl _
  | p :: L, l => by
    have h1 := calOf_len L (cstep l p)
    have h2 : (cstep l p).length ≤ l.length + 1 := aset_len _ _ _
    simp only [List.foldl_cons, List.length_cons]; omega
theorem aset_mem {α : Type} : ∀ {l : List (Int × α)} {k : Int} {v : α} {x : Int × α}, x ∈ aset l k v → x = (k, v) ∨ x ∈ l
  | [], k, v, x, h => by simpa [aset] using h
  | (k', d) :: r, k, v, x, h => by
    unfold aset at h
    split at h
    · rename_i e; subst e
      rcases List.mem_cons.mp h with h | h
      · exact .inl h
      · exact .inr (.tail _ h)
    · rcases List.mem_cons.mp h with h | h
      · exact .inr (h ▸ .head _)
      · exact (aset_mem h).imp id (.tail _)
theorem aget_mem {α : Type} : ∀ {l : List (Int × α)} {k : Int} {v : α}, aget l k = some v → (k, v) ∈ l
  | (k', d) :: r, k, v, h => by
    unfold aget at h
    split at h
    · rename_i e; subst e; cases h; exact .head _
    · exact .tail _ (aget_mem h)
/-- the counts stay small -/
theorem cal_small : ∀ (L : List (Nat × Nat)) (l : List (Int × Int)) (B : Int), (∀ p ∈ l, 0 ≤ p.2 ∧ p.2 ≤ B) → 0 ≤ B → ∀ p ∈ L.foldl cstep l, 0 ≤ p.2 ∧ p.2 ≤ B + 4 * (L.length : Int)
  | [], l, B, h, h0, p, hp => by have := h p hp; simp; omega
  | q :: L, l, B, h, h0, p, hp => by
    have hc := cnt_le q.1
    have := cal_small L (cstep l q) (B + 4) (fun x hx => by
      rcases aset_mem hx with rfl | hx
      · cases hg : aget l ((cal q.1 : Nat) : Int) with
        | none => simp; omega
        | some v =>
          have := h _ (aget_mem hg)
          simp at this ⊢; omega
      · have := h x hx; omega) (by omega) p hp
    rw [List.length_cons]; push_cast; omega

theorem zip_lt {α : Type} {l : List α} {p : α × Nat} (h : p ∈ l.zipIdx) : p.2 < l.length := by
  obtain ⟨i, hi⟩ := List.mem_iff_getElem?.mp h
  rw [List.getElem?_zipIdx] at hi
  cases hx : l[i]? with
  | none => rw [hx] at hi; cases hi
  | some x =>
    rw [hx] at hi
    have := (List.getElem?_eq_some_iff.mp hx).1
    have e : (x, 0 + i) = p := by simpa using hi
    rw [← e]; simpa using this
theorem filterMap_some' {α β : Type} (f : α → β) : ∀ l : List α, (l.filterMap fun a => some (f a)) = l.map f
  | [] => rfl
  | a :: r => by rw [List.filterMap_cons]; simp only [filterMap_some' f r, List.map_cons]
section
variable {prog : Program} {w : World} {hb : Heap} {n : Nat} {A : Around} {env : Env} {ρ : Rho} {ω : Omega} {s₀ s : Shared} {S₀ Wt : ASet}

theorem filterMap_own (ms : List Nat) (who : Nat) : (ms.zipIdx.filterMap fun p => if cld p.1 = who then some (ownD p) else none) = (ownL ms who).map ownD := by
  unfold ownL
  generalize ms.zipIdx = l
  induction l with
  | nil => rfl
  | cons p l ih =>
    rw [List.filterMap_cons, List.filter_cons]
    by_cases h : cld p.1 = who
    · simp [h, ih]
    · simp [h, ih]

theorem EX.seq {sts : List Stmt} {st : Stmt} {out : Out} {ρ' : Rho} {ω' : Omega} (h : ST prog w hb n A env ρ ω st (.next ρ' ω')) (hr : EX prog w hb n A env ρ' ω' sts out) : EX prog w hb n A env ρ ω (st :: sts) out := .cons h hr
theorem FL.cast {t : Expr} {body : List Stmt} {xs : List PyData} {out out' : Out} (h : FL prog w hb n A env ρ ω t body xs out) (e : out = out') : FL prog w hb n A env ρ ω t body xs out' := e ▸ h

theorem c_ledger {T : TopF hb} (W : Tops hb T) : Callable T prog w (n + 1) "_law_ledger" (fun ds d => ∃ ms : List Nat, ms.length ≤ 100 ∧ ds = [.list (ms.map lawCallD)] ∧ d = profD (ledgOf ms)) := by
  refine W.fn (k := 28) (ps := ["calls"]) (by decide) ⟨rfl, rfl, by decide, by decide, by decide⟩ rfl (fun _ _ vs h => by obtain ⟨a, rfl⟩ := len1 h rfl; kernel_rfl) (fun ds d ⟨_, _, h, _⟩ => by rw [h]; rfl) (fun A L f pm cd ds d ⟨ms, hl, hds, hd⟩ => ?_)
  subst hds; subst hd
  refine EX.newDict T (.inl rfl) rfl noOwn fun a => ?_
  refine EX.cons (ST.for_ (EI.conv (ys := (List.range 6).map fun i : Nat => PyData.int i) (EI.range1 T (m := 6) rfl W.range (.cons .int .nil) rfl (by decide)) rfl) (FL.inv (f := fun i : Nat => PyData.int i) (fun i (P : List (Int × Ent)) => P.length ≤ i) (fun _ => [("calls", .list (ms.map lawCallD))]) (fun P => [("ledger", a, profD P)]) (lstep ms) (List.range 6) 0 [] (Nat.le_refl _)
    (fun j P who hj hP => ⟨?_, _, [("callers", dictI (calOf (ownL ms who))), ("own", .list ((ownL ms who).map ownD)), ("who", .int who), ("calls", .list (ms.map lawCallD))], .name (.inr ⟨rfl, _, rfl⟩) (ap1 (by decide)), ?_, .cons rfl .nil⟩))) ?_
  · unfold lstep
    split
    · omega
    · have := aset_len P (who : Int) (ledEnt (ownL ms who)); omega
  · have hj' := (List.getElem?_eq_some_iff.mp hj).1
    rw [List.length_range] at hj'
    have hol : (ownL ms who).length ≤ 100 := by
      unfold ownL
      have := List.length_filter_le (fun p : Nat × Nat => cld p.1 == who) ms.zipIdx
      rw [List.length_zipIdx] at this; omega
    refine EX.cons (ST.assignComp (ρc := [("who", .int who)]) (ys := (ownL ms who).map ownD) rfl (EI.conv (EI.enum T rfl W.enum (.cons (.name rfl) .nil)) (enumD_map lawCallD ms)) (.of rfl rfl rfl (by decide)) (.cons rfl rfl (.inl rfl) .nil) (fun C => ?_) (by simpa using Nat.le_trans hol (by decide)) (.inl rfl) (ap1 (by decide))) ?_
    · refine CL.conv (CL.fm (f := fun p : Nat × Nat => PyData.tuple [.int p.2, lawCallD p.1]) (g := fun p : Nat × Nat => if cld p.1 = who then some (ownD p) else none) (fun it acc => turn_one _ _ _ _ _ _ it acc _) ms.zipIdx (fun p _ => ⟨_, .tupleT (.cons rfl (.cons rfl .nil)), sub_new (sub_new sub_refl rfl) rfl, .one (EB.conv (.cmp (.itemT (.name (d := lawCallD p.1) rfl) .int (by decide) (by decide) rfl) (.name rfl) .eqInt) ?_), fun v hv => ?_⟩)) (filterMap_own ms who)
      · show (((cld p.1 : Nat) : Int) == (who : Int)) = _
        by_cases h : cld p.1 = who
        · simp [h]
        · rw [if_neg h]; simp; omega
      · by_cases h : cld p.1 = who
        · rw [if_pos h] at hv; cases hv
          exact .tuple (.cons (.name rfl) (.cons (.itemT (.name (d := lawCallD p.1) rfl) .int (by decide) (by decide) rfl) (.cons (.itemT (.name (d := lawCallD p.1) rfl) .int (by decide) (by decide) rfl) .nil)))
        · rw [if_neg h] at hv; cases hv
    refine EX.newDict T (.inl rfl) rfl (ap1 (by decide)) fun b => ?_
    refine EX.cons (ST.for_ (EI.list (.name rfl)) (FL.inv (f := ownD) (fun i (l : List (Int × Int)) => l.length ≤ i) (fun _ => [("own", .list ((ownL ms who).map ownD)), ("who", .int who), ("calls", .list (ms.map lawCallD))]) (fun l => [("callers", b, dictI l), ("ledger", a, profD P)]) cstep (ownL ms who) 0 [] (Nat.le_refl _)
      (fun i l p hi hl' => ⟨by have : (cstep l p).length ≤ l.length + 1 := aset_len _ _ _; omega, _, _, .tupleT (.cons (.inl rfl) (ap2 (by decide) (by decide)) (.cons (.inl rfl) (ap2 (by decide) (by decide)) (.cons (.inl rfl) (ap2 (by decide) (by decide)) .nil))),
        EX.one (ST.cast (ST.setItem (.add (a := (aget l (cal p.1 : Nat)).getD 0) (.conv (.dictGet (.own rfl) (.cons (.name rfl) (.cons .int .nil))) (by rw [dgetI]; exact getD_map _)) (.name rfl)) (.name rfl) (by have := (List.getElem?_eq_some_iff.mp hi).1; simp; omega)) (by rw [dsetI]; rfl)), .cons rfl (.cons rfl (.cons rfl .nil))⟩))) ?_
    refine EX.freeze ?_
    have hsm : ∀ p ∈ ownL ms who, p.2 < 100 := fun p hp => by
      have h1 := zip_lt (List.mem_filter.mp hp).1
      omega
    have hco : ∀ p ∈ calOf (ownL ms who), 0 ≤ p.2 ∧ p.2 ≤ 1000000 := fun p hp => by
      have := cal_small (ownL ms who) [] 0 (fun _ h => nomatch h) (Int.le_refl _) p hp
      omega
    have hcl : (calOf (ownL ms who)).length ≤ 100 := by have := calOf_len (ownL ms who) []; simp only [List.length_nil] at this; unfold calOf; omega
    refine EX.one (ST.if_ (b := !(ownL ms who).isEmpty) (EB.conv (.cmp (.name rfl) (.list .nil) (.neData (a := .list ((ownL ms who).map ownD)) (b := .list []) (lay_map _ fun p _ => rfl) rfl (Nat.le_trans (Nat.min_le_right _ _) (by decide)))) (by rw [eqv_nil])) (fun h => ?_) (fun h => ?_))
    · have he : (ownL ms who).isEmpty = false := by simpa using h
      refine EX.one (ST.cast (ST.setItem (d := entD (ledEnt (ownL ms who))) (.tuple (.cons (.conv (.callB T rfl W.len (.cons (.name rfl) .nil) (.lenL (by simp; omega))) (by rw [List.length_map]; rfl)) (.cons (.sumValues T (kvs := calOf (ownL ms who)) rfl W.sum (.name rfl) hco (by omega))
        (.cons (.callB T rfl W.sum (.cons (.comp (ys := (((ownL ms who).map fun p => ((p.2 : Nat) : Int))).map PyData.int) (EI.list (.name rfl)) (.of rfl rfl rfl (by decide)) .nil (fun C => CL.conv (CL.fm (f := ownD) (g := fun p : Nat × Nat => some (.int p.2)) (fun it acc => turn_one _ _ _ _ _ _ it acc _) (ownL ms who) (fun p _ => ⟨_, .name rfl, sub_new sub_refl rfl, .nil, fun v hv => by cases hv; exact .itemT (.name (d := ownD p) rfl) .int (by decide) (by decide) rfl⟩)) (ys' := (((ownL ms who).map fun p => ((p.2 : Nat) : Int))).map PyData.int) (by rw [filterMap_some', List.map_map]; rfl)) (by simp; omega)) .nil) (.sum ?_ (by simp; omega)))
        (.cons (.callB T rfl W.sum (.cons (.comp (ys := (((ownL ms who).map fun p => ((p.2 * cnt p.1 : Nat) : Int))).map PyData.int) (EI.list (.name rfl)) (.of rfl rfl rfl (by decide)) .nil (fun C => CL.conv (CL.fm (f := ownD) (g := fun p : Nat × Nat => some (.int (p.2 * cnt p.1 : Nat))) (fun it acc => turn_one _ _ _ _ _ _ it acc _) (ownL ms who) (fun p _ => ⟨_, .name rfl, sub_new sub_refl rfl, .nil, fun v hv => by cases hv; exact .mulN (.itemT (.name (d := ownD p) rfl) .int (by decide) (by decide) rfl) (.itemT (.name (d := ownD p) rfl) .int (by decide) (by decide) rfl) (by have := cnt_le p.1; omega)⟩)) (ys' := (((ownL ms who).map fun p => ((p.2 * cnt p.1 : Nat) : Int))).map PyData.int) (by rw [filterMap_some', List.map_map]; rfl)) (by simp; omega)) .nil) (.sum ?_ (by simp; omega)))
        (.cons (.name rfl) .nil)))))) (.name rfl) (by simp; omega)) ?_)
      · intro x hx
        obtain ⟨p, hp, rfl⟩ := List.mem_map.mp hx
        have := hsm p hp; omega
      · intro x hx
        obtain ⟨p, hp, rfl⟩ := List.mem_map.mp hx
        have h1 := hsm p hp
        have h2 := cnt_le p.1
        have : p.2 * cnt p.1 ≤ 100 * 4 := Nat.mul_le_mul (by omega) h2.2
        omega
      · rw [dsetP]; unfold lstep; rw [he]; rfl
    · have he : (ownL ms who).isEmpty = true := by simpa using h
      refine EX.cast .nil ?_
      unfold lstep; rw [he]; rfl
  · exact EX.one (ST.retOwn rfl)
end
end Mine

namespace Mine
open PySem PySem.Calls PyProof.Rows

noncomputable def pairD (p : Nat × Nat) : PyData := .tuple [.int p.1, .int p.2]
noncomputable def natD (i : Nat) : PyData := .int i
noncomputable def rowOf (pairing : List (Nat × Nat)) : List Nat := pairing.flatMap fun p => [p.1, p.2]
noncomputable def invL (row : List Nat) : List Nat := row.zipIdx.flatMap fun p => (row.drop (p.2 + 1)).filterMap fun o => if o < p.1 then some p.1 else none
noncomputable def invs (pairing : List (Nat × Nat)) : Nat := (invL (rowOf pairing)).length

theorem flatMap_map {α β γ : Type} (f : β → γ) (g : α → List β) : ∀ l : List α, (l.flatMap fun a => (g a).map f) = (l.flatMap g).map f
  | [] => rfl
  | a :: r => by rw [List.flatMap_cons, List.flatMap_cons, List.map_append, flatMap_map f g r]
theorem flatMap_len {α β : Type} (g : α → List β) (k : Nat) : ∀ l : List α, (∀ a ∈ l, (g a).length ≤ k) → (l.flatMap g).length ≤ l.length * k
  | [], _ => by simp
  | a :: r, h => by
    rw [List.flatMap_cons, List.length_append, List.length_cons, Nat.add_mul, Nat.one_mul]
    have h1 := flatMap_len g k r fun b hb => h b (.tail _ hb)
    have h2 := h a (.head _)
    omega
theorem filterMap_if {α β γ : Type} (p : α → Prop) [DecidablePred p] (h : α → β) (f : β → γ) : ∀ l : List α, (l.filterMap fun a => if p a then some (f (h a)) else none) = (l.filterMap fun a => if p a then some (h a) else none).map f
  | [] => rfl
  | a :: r => by
    rw [List.filterMap_cons, List.filterMap_cons]
    by_cases q : p a
    · simp [q, filterMap_if p h f r]
    · simp [q, filterMap_if p h f r]

section
variable {prog : Program} {w : World} {hb : Heap} {n : Nat} {A : Around} {env : Env} {ρ : Rho} {ω : Omega} {s₀ s : Shared} {S₀ Wt : ASet}

theorem c_invs {T : TopF hb} (W : Tops hb T) : Callable T prog w (n + 1) "_law_inversions" (fun ds d => ∃ pg : List (Nat × Nat), pg.length ≤ 100 ∧ ds = [.list (pg.map pairD)] ∧ d = .int (invs pg : Nat)) := by
  refine W.fn (k := 33) (ps := ["pairing"]) (by decide) ⟨rfl, rfl, by decide, by decide, by decide⟩ rfl (fun _ _ vs h => by obtain ⟨a, rfl⟩ := len1 h rfl; kernel_rfl) (fun ds d ⟨_, _, h, _⟩ => by rw [h]; rfl) (fun A L f pm cd ds d ⟨pg, hl, hds, hd⟩ => ?_)
  subst hds; subst hd
  have hrl : (rowOf pg).length ≤ 200 := by
    have := flatMap_len (fun p : Nat × Nat => [p.1, p.2]) 2 pg (fun a _ => Nat.le_refl _)
    unfold rowOf; omega
  have hil : (invL (rowOf pg)).length ≤ 200 * 200 := by
    have h1 := flatMap_len (fun p : Nat × Nat => ((rowOf pg).drop (p.2 + 1)).filterMap fun o => if o < p.1 then some p.1 else none) 200 (rowOf pg).zipIdx (fun a _ => by
      have h2 := List.length_filterMap_le (fun o => if o < a.1 then some a.1 else none) ((rowOf pg).drop (a.2 + 1))
      rw [List.length_drop] at h2; omega)
    rw [List.length_zipIdx] at h1
    unfold invL
    have := Nat.mul_le_mul_right 200 hrl
    omega
  refine EX.cons (ST.assign (d := .list ((rowOf pg).map natD)) (.comp (ys := (rowOf pg).map natD) (EI.list (.name rfl)) (.of rfl rfl rfl (by decide)) .nil (fun C => CL.conv (CL.fm2 (f := pairD) (us := fun p => [.int p.1, .int p.2]) (ys := fun p => [p.1, p.2].map natD) (by intro _; rfl) pg (fun p _ => ⟨_, .name rfl, sub_new sub_refl rfl, .nil, EI.tuple (.name (d := pairD p) rfl), CL.conv (CL.fm (f := natD) (g := fun i : Nat => some (natD i)) (fun it acc => turn_two _ _ _ _ _ _ _ _ _ it acc _) [p.1, p.2] (fun i _ => ⟨_, .name rfl, sub_new sub_refl rfl, .nil, fun v hv => by cases hv; exact .name rfl⟩)) (filterMap_some' _ _)⟩)) (flatMap_map natD _ pg)) (by simp; omega)) (.inr ⟨rfl, _, rfl⟩) noOwn) ?_
  refine EX.conv (EX.one (ST.ret (.callB T rfl W.len (.cons (.comp (ρc := [("row", .list ((rowOf pg).map natD))]) (ys := (invL (rowOf pg)).map natD) (EI.conv (EI.enum T rfl W.enum (.cons (.name rfl) .nil)) (enumD_map natD (rowOf pg))) (.of rfl rfl rfl (by decide)) (.cons rfl rfl (.inl rfl) .nil) (fun C => CL.conv (CL.fm2 (f := fun p : Nat × Nat => PyData.tuple [.int p.2, natD p.1]) (us := fun p => ((rowOf pg).map natD).drop (p.2 + 1)) (ys := fun p => (((rowOf pg).drop (p.2 + 1)).filterMap fun o => if o < p.1 then some p.1 else none).map natD) (by intro _; rfl) (rowOf pg).zipIdx
    (fun p _ => ⟨_, .tupleT (.cons rfl (.cons rfl .nil)), sub_new (sub_new sub_refl rfl) rfl, .nil, EI.list (.sliceFrom (.name rfl) (.addN (b := 1) (.name rfl) .int) (by simp; omega)), ?_⟩)) (flatMap_map natD _ _)) (by simp; omega)) .nil) (.lenL (by simp; omega))))) (by simp [invs])
  rw [← List.map_drop]
  refine CL.conv (CL.fm (f := natD) (g := fun o : Nat => if o < p.1 then some (natD p.1) else none) (fun it acc => turn_two _ _ _ _ _ _ _ _ _ it acc _) ((rowOf pg).drop (p.2 + 1)) (fun o _ => ⟨_, .name rfl, sub_new sub_refl rfl, .one (EB.conv (.cmp (.name rfl) (.name rfl) .ltInt) ?_), fun v hv => ?_⟩)) (filterMap_if (fun o => o < p.1) (fun _ => p.1) natD _)
  · by_cases h : o < p.1 <;> simp [h]
  · by_cases h : o < p.1
    · rw [if_pos h] at hv; cases hv; exact .name rfl
    · rw [if_neg h] at hv; cases hv
end
end Mine

namespace Mine
open PySem PySem.Calls PyProof.Rows

noncomputable def pgD (pg : List (Nat × Nat)) : PyData := .list (pg.map pairD)
noncomputable def worthOf (P : List (Int × Ent)) (t : Nat) (pg : List (Nat × Nat)) : Int := pg.foldl (fun (v : Int) p => v * netOf P p.1 p.2) (1 - 2 * ((t % 2 : Nat) : Int))
noncomputable def wstep (P : List (Int × Ent)) (ts : List Nat) (l : List (Int × Int)) (p : List (Nat × Nat) × Nat) : List (Int × Int) := aset l (p.2 : Nat) (worthOf P (ts.getD p.2 0) p.1)
noncomputable def worthsOf (P : List (Int × Ent)) (pgs : List (List (Nat × Nat))) (ts : List Nat) : List (Int × Int) := pgs.zipIdx.foldl (wstep P ts) []

section
variable {prog : Program} {w : World} {hb : Heap} {n : Nat} {A : Around} {env : Env} {ρ : Rho} {ω : Omega} {s₀ s : Shared} {S₀ Wt : ASet}

theorem c_worths {T : TopF hb} (W : Tops hb T) : Callable T prog w (n + 2) "_law_worths" (fun ds d => ∃ (P : List (Int × Ent)) (pgs : List (List (Nat × Nat))) (ts : List Nat), pgs.length ≤ 100 ∧ pgs.length ≤ ts.length ∧ (∀ a b, (netOf P a b).natAbs < 2 ^ 60) ∧ ds = [profD P, .list (pgs.map pgD), .list (ts.map natD)] ∧ d = dictI (worthsOf P pgs ts)) := by
  refine W.fn (k := 34) (ps := ["profile", "pairings", "turned"]) (by decide) ⟨rfl, rfl, by decide, by decide, by decide⟩ rfl (fun _ _ vs h => by obtain ⟨a, b, c, rfl⟩ := len3 h rfl; kernel_rfl) (fun ds d ⟨_, _, _, _, _, _, h, _⟩ => by rw [h]; rfl) (fun A L f pm cd ds d ⟨P, pgs, ts, hl, hlt, hnet, hds, hd⟩ => ?_)
  subst hds; subst hd
  refine EX.newDict T (.inl rfl) rfl noOwn fun a => ?_
  refine EX.cons (ST.for_ (EI.conv (EI.enum T rfl W.enum (.cons (.name rfl) .nil)) (enumD_map pgD pgs)) (FL.inv (f := fun p : List (Nat × Nat) × Nat => PyData.tuple [.int p.2, pgD p.1]) (fun i (l : List (Int × Int)) => l.length ≤ i) (fun _ => [("profile", profD P), ("pairings", .list (pgs.map pgD)), ("turned", .list (ts.map natD))]) (fun l => [("worths", a, dictI l)]) (wstep P ts) pgs.zipIdx 0 [] (Nat.le_refl _)
    (fun j l p hj hP => ⟨by have : (wstep P ts l p).length ≤ l.length + 1 := aset_len _ _ _; omega, _, [("worth", .int (worthOf P (ts.getD p.2 0) p.1)), ("pairing", pgD p.1), ("place", .int p.2), ("profile", profD P), ("pairings", .list (pgs.map pgD)), ("turned", .list (ts.map natD))], .tupleT (.cons (.inl rfl) (ap1 (by decide)) (.cons (.inl rfl) (ap1 (by decide)) .nil)), ?_, .cons rfl (.cons rfl (.cons rfl .nil))⟩))) ?_
  · have hj' := (List.getElem?_eq_some_iff.mp hj).1
    rw [List.length_zipIdx] at hj'
    have hp := zip_lt (List.mem_of_getElem? hj)
    refine EX.cons (ST.assign (d := .int (1 - 2 * ((ts.getD p.2 0 % 2 : Nat) : Int))) (.sub .int (.mul .int (.fmodN (b := 2) (.itemL (d := natD (ts.getD p.2 0)) (EV.toR (.name rfl)) (.name rfl) (Int.natCast_nonneg _) (by omega) ?_) .int (by decide)) (mulOk ?_))) (.inl rfl) (ap1 (by decide))) ?_
    · rw [Int.toNat_natCast, List.getElem?_map, List.getElem?_eq_getElem (show p.2 < ts.length by omega)]
      simp [List.getD, List.getElem?_eq_getElem (show p.2 < ts.length by omega)]
    · have := Nat.mod_lt (ts.getD p.2 0) (show 2 > 0 by decide)
      simp only [Int.natAbs_natCast]; omega
    refine EX.cons (ST.for_ (EI.list (.name (d := pgD p.1) rfl)) (FL.inv (f := pairD) (fun _ _ => True) (fun v : Int => [("worth", .int v), ("pairing", pgD p.1), ("place", .int p.2), ("profile", profD P), ("pairings", .list (pgs.map pgD)), ("turned", .list (ts.map natD))]) (fun _ => [("worths", a, dictI l)]) (fun v q => v * netOf P q.1 q.2) p.1 0 (1 - 2 * ((ts.getD p.2 0 % 2 : Nat) : Int)) trivial
      (fun i v q hi _ => ⟨trivial, _, _, .tupleT (.cons (.inl rfl) (ap1 (by decide)) (.cons (.inl rfl) (ap1 (by decide)) .nil)), EX.one (ST.assign (.mul (.name rfl) (.call T (c_net (n := n) W) rfl (Nat.le_refl _) (.cons (.name rfl) (.cons (.name rfl) (.cons (.name rfl) .nil))) ⟨P, q.1, q.2, rfl, rfl⟩) (mulOk (by have := hnet q.1 q.2; omega))) (.inl rfl) (ap1 (by decide))), .cons rfl (.cons rfl (.cons rfl (.cons rfl (.cons rfl (.cons rfl .nil)))))⟩))) ?_
    exact EX.one (ST.cast (ST.setItem (.name rfl) (.name rfl) (by simp; omega)) (by rw [dsetI]; rfl))
  · exact EX.one (ST.retOwn rfl)
end
end Mine

namespace Mine
open PySem PySem.Calls PyProof.Rows

/-- the ways to pair off -/
noncomputable def pairsOf : Nat → List Nat → List (List (Nat × Nat))
  | 0, _ => [[]]
  | _ + 1, [] => [[]]
  | f + 1, p :: r => (List.range r.length).foldl (fun s i => (pairsOf f (r.take i ++ r.drop (i + 1))).foldl (fun s rest => s ++ [(p, r.getD i 0) :: rest]) s) []

theorem foldl_snoc_len {α β : Type} (g : α → β) : ∀ (l : List α) (s : List β), (l.foldl (fun s a => s ++ [g a]) s).length = s.length + l.length
  | [], s => rfl
  | a :: l, s => by rw [List.foldl_cons, foldl_snoc_len g l, List.length_append, List.length_cons]; simp; omega
theorem foldl_len_le {α β : Type} (B : Nat) (step : List β → α → List β) (h : ∀ s a, (step s a).length ≤ s.length + B) : ∀ (l : List α) (s : List β), (l.foldl step s).length ≤ s.length + l.length * B
  | [], s => by simp
  | a :: l, s => by
    have h1 := foldl_len_le B step h l (step s a)
    have h2 := h s a
    rw [List.foldl_cons, List.length_cons, Nat.add_mul, Nat.one_mul]; omega
theorem pairsOf_len : ∀ (f : Nat) (l : List Nat), l.length ≤ 6 → (pairsOf f l).length ≤ 6 ^ f
  | 0, _, _ => by simp [pairsOf]
  | f + 1, [], _ => by simp only [pairsOf, List.length_cons, List.length_nil]; exact Nat.one_le_pow _ _ (by decide)
  | f + 1, p :: r, h => by
    unfold pairsOf
    have hr : r.length ≤ 5 := by simpa using h
    have := foldl_len_le (6 ^ f) (fun (s : List (List (Nat × Nat))) i => (pairsOf f (r.take i ++ r.drop (i + 1))).foldl (fun s rest => s ++ [(p, r.getD i 0) :: rest]) s) (fun s i => by
      rw [foldl_snoc_len]
      have := pairsOf_len f (r.take i ++ r.drop (i + 1)) (by rw [List.length_append, List.length_take, List.length_drop]; omega)
      omega) (List.range r.length) []
    rw [List.length_range] at this
    have h2 : r.length * 6 ^ f ≤ 5 * 6 ^ f := Nat.mul_le_mul_right _ hr
    rw [Nat.pow_succ]
    simp only [List.length_nil] at this
    omega

theorem mem_snoc {α β : Type} {g : α → β} {x : β} : ∀ {l : List α} {s : List β}, x ∈ l.foldl (fun s a => s ++ [g a]) s → x ∈ s ∨ ∃ a ∈ l, x = g a
  | [], s, h => .inl h
  | a :: l, s, h => by
    rcases mem_snoc (l := l) h with h | ⟨b, hb, e⟩
    · rcases List.mem_append.mp h with h | h
      · exact .inl h
      · exact .inr ⟨a, .head _, by simpa using h⟩
    · exact .inr ⟨b, .tail _ hb, e⟩
theorem mem_step {α β : Type} {x : β} {step : List β → α → List β} {Q : Prop} (h : ∀ s a, x ∈ step s a → x ∈ s ∨ Q) : ∀ (l : List α) (s : List β), x ∈ l.foldl step s → x ∈ s ∨ Q
  | [], s, hx => .inl hx
  | a :: l, s, hx => (mem_step h l (step s a) hx).elim (h s a) .inr
theorem pairsOf_pg : ∀ (f : Nat) (l : List Nat) (pg : List (Nat × Nat)), pg ∈ pairsOf f l → pg.length ≤ f
  | 0, _, pg, h => by simp [pairsOf] at h; simp [h]
  | f + 1, [], pg, h => by simp [pairsOf] at h; simp [h]
  | f + 1, p :: r, pg, h => by
    unfold pairsOf at h
    rcases mem_step (Q := pg.length ≤ f + 1) (fun s i hx => by
      rcases mem_snoc hx with hx | ⟨rest, hr, e⟩
      · exact .inl hx
      · have := pairsOf_pg f _ rest hr
        exact .inr (by rw [e]; simpa using this)) _ _ h with h | h
    · cases h
    · exact h

section
variable {prog : Program} {w : World} {hb : Heap} {n : Nat} {A : Around} {env : Env} {ρ : Rho} {ω : Omega} {s₀ s : Shared} {S₀ Wt : ASet}

theorem ints_one (m : Nat) : intsD 1 m = (List.range m).map fun i => natD (1 + i) := by
  unfold intsD natD
  refine List.map_congr_left fun i _ => ?_
  rw [Int.natCast_add]; rfl
noncomputable def G29 (f : Nat) : List PyData → PyData → Prop := fun ds d => ∃ l : List Nat, l.length ≤ f ∧ l.length ≤ 6 ∧ ds = [.list (l.map natD)] ∧ d = .list ((pairsOf f l).map pgD)

theorem c_pairs {T : TopF hb} (W : Tops hb T) : ∀ f, f ≤ 6 → Callable T prog w (n + f + 1) "_law_pairings" (G29 f)
  | f, hf6 => by
    refine W.fn (k := 29) (ps := ["places"]) (by decide) ⟨rfl, rfl, by decide, by decide, by decide⟩ rfl (fun _ _ vs h => by obtain ⟨a, rfl⟩ := len1 h rfl; kernel_rfl) (fun ds d ⟨_, _, _, h, _⟩ => by rw [h]; rfl) (fun A L fa pm cd ds d ⟨l, hl, h6, hds, hd⟩ => ?_)
    subst hds; subst hd
    have lay : (PyData.list (l.map natD)).canLay0 = true := lay_map _ fun _ _ => rfl
    cases hc : l with
    | nil =>
      subst hc
      refine EX.consRet (ST.if_ (b := true) (EB.conv (.cmp (.name rfl) (.list .nil) (.eqData rfl rfl (by decide))) rfl) (fun _ => EX.conv (EX.one (ST.ret (.list (.cons (.list .nil) .nil)))) ?_) (fun h => nomatch h))
      cases f <;> rfl
    | cons p r =>
      subst hc
      match f, hl, hf6 with
      | f + 1, hl, hf6 =>
        have hr : r.length ≤ f := by simpa using hl
        have hr5 : r.length ≤ 5 := by simpa using h6
        refine EX.cons (ST.if_ (b := false) (EB.conv (.cmp (.name rfl) (.list .nil) (.eqData lay rfl (Nat.le_trans (Nat.min_le_right _ _) (by decide)))) (by rw [eqv_nil]; rfl)) (fun h => nomatch h) (fun _ => .nil)) ?_
        refine EX.newList (.inl rfl) rfl noOwn fun a => ?_
        have hB : 6 ^ f ≤ 6 ^ 5 := Nat.pow_le_pow_right (by decide) (by omega)
        refine EX.cons (ST.for_ (EI.conv (EI.range2 T (m := r.length) rfl W.range (.cons .int (.cons (.callB T rfl W.len (.cons (.name rfl) .nil) (.lenL (by simp; omega))) .nil)) (by simp) (by decide) (by simp; omega)) (ints_one _)) (FL.inv (f := fun i : Nat => natD (1 + i)) (fun i (s : List (List (Nat × Nat))) => s.length ≤ i * 6 ^ f) (fun _ => [("places", .list ((p :: r).map natD))]) (fun s => [("found", a, .list (s.map pgD))])
          (fun s i => (pairsOf f (r.take i ++ r.drop (i + 1))).foldl (fun s rest => s ++ [(p, r.getD i 0) :: rest]) s) (List.range r.length) 0 [] (Nat.zero_le _) (fun j s i hj hP => ⟨?_, _, [("k", natD (1 + i)), ("places", .list ((p :: r).map natD))], .name (.inl rfl) (ap1 (by decide)), ?_, .cons rfl .nil⟩))) ?_
        · rw [foldl_snoc_len]
          have := pairsOf_len f (r.take i ++ r.drop (i + 1)) (by rw [List.length_append, List.length_take, List.length_drop]; omega)
          rw [Nat.add_mul, Nat.one_mul]; omega
        · have hj' := (List.getElem?_eq_some_iff.mp hj)
          obtain ⟨hj1, hj2⟩ := hj'
          rw [List.length_range] at hj1
          rw [List.getElem_range] at hj2
          subst hj2
          have hsub : (r.take j ++ r.drop (j + 1)).length ≤ f := by rw [List.length_append, List.length_take, List.length_drop]; omega
          have ih := c_pairs W f (by omega)
          have hcut : (((p :: r).map natD).drop 1).take (1 + j - 1) ++ ((p :: r).map natD).drop (1 + j + 1) = (r.take j ++ r.drop (j + 1)).map natD := by
            rw [show 1 + j - 1 = j by omega, show 1 + j + 1 = j + 1 + 1 by omega]
            simp
          refine EX.one (ST.cast (ST.for_ (EI.list (.call T ih rfl (Nat.le_refl _) (.cons (.conv (.addL (.sliceRun (a := 1) (b := 1 + j) (.name rfl) .int (.name rfl) (by simp; omega) (by omega) (by simp; omega)) (.sliceFrom (a := 1 + j + 1) (.name rfl) (.addN (b := 1) (.name rfl) .int) (by simp; omega)) (by simp; omega)) (by rw [hcut])) .nil) ⟨_, hsub, by omega, rfl, rfl⟩)) (FL.inv (f := pgD) (fun i (s' : List (List (Nat × Nat))) => s'.length ≤ s.length + i) (fun _ => [("k", natD (1 + j)), ("places", .list ((p :: r).map natD))]) (fun s => [("found", a, .list (s.map pgD))]) (fun s rest => s ++ [(p, r.getD j 0) :: rest]) (pairsOf f (r.take j ++ r.drop (j + 1))) 0 s (Nat.le_refl _)
            (fun i s' rest hi hP' => ⟨by simp; omega, _, [("rest", pgD rest), ("k", natD (1 + j)), ("places", .list ((p :: r).map natD))], .name (.inl rfl) (ap1 (by decide)), EX.one (ST.cast (ST.append (.cons (.addL (ys := rest.map pairD) (.list (.cons (.tuple (.cons (.itemL (EV.toR (.name rfl)) .int (by decide) (by decide) rfl) (.cons (.itemL (d := natD (r.getD j 0)) (EV.toR (.name rfl)) (.name rfl) (Int.natCast_nonneg _) (by omega) ?_) .nil))) .nil)) (.name rfl) ?_) .nil) ?_) ?_), .cons rfl (.cons rfl .nil)⟩))) rfl)
          · rw [Int.toNat_natCast, show 1 + j = j + 1 by omega, List.map_cons, List.getElem?_cons_succ, List.getElem?_map, List.getElem?_eq_getElem hj1]
            simp [List.getD, List.getElem?_eq_getElem hj1]
          · have := pairsOf_pg f _ rest (List.mem_of_getElem? hi)
            simp; omega
          · have h1 := (List.getElem?_eq_some_iff.mp hi).1
            have h2 := pairsOf_len f (r.take j ++ r.drop (j + 1)) (by omega)
            have h3 : (0 + j) * 6 ^ f ≤ 5 * 6 ^ f := Nat.mul_le_mul_right _ (by omega)
            simp; omega
          · simp [pgD, pairD, natD]
        · exact EX.conv (EX.one (ST.retOwn rfl)) rfl
end
end Mine

namespace Mine
open PySem PySem.Calls PyProof.Rows

/-- what the judge of brackets answers -/
noncomputable def checkT : List (Str × Bool) := [(⟨#[34, 34, 40, 41]⟩, true), (⟨#[34, 40, 34, 41]⟩, false), (⟨#[34, 40, 41, 34]⟩, true), (⟨#[40, 41, 34, 34]⟩, true), (⟨#[40, 34, 41, 34]⟩, false), (⟨#[40, 34, 34, 41]⟩, true), (⟨#[34, 34, 41, 40]⟩, false), (⟨#[34, 41, 34, 40]⟩, false), (⟨#[34, 41, 40, 34]⟩, true)]
noncomputable def checkG : List PyData → PyData → Prop := fun ds d => ∃ x b, checkT.lookup x = some b ∧ ds = [.str x] ∧ d = .bool b

noncomputable def jkvs (m b br : Nat × Nat) : List (Int × Str) := [((m.1 : Nat), ⟨#[34]⟩), ((m.2 : Nat), ⟨#[34]⟩), ((b.1 : Nat), ⟨#[br.1]⟩), ((b.2 : Nat), ⟨#[br.2]⟩)]
noncomputable def jstrs (m b br : Nat × Nat) : List Str := (List.range 6).map fun i => (aget (jkvs m b br) (i : Nat)).getD Str.empty
noncomputable def jres (m b br : Nat × Nat) : Option Bool := if (decide ((jkvs m b br).map (·.1)).Nodup && JoinOk "" (jstrs m b br)) = true then checkT.lookup (Txt.join "" (jstrs m b br)) else none

section
variable {prog : Program} {w : World} {hb : Heap} {n : Nat} {A : Around} {env : Env} {ρ : Rho} {ω : Omega} {s₀ s : Shared} {S₀ Wt : ASet}

theorem getD_str (o : Option Str) : (o.map PyData.str).getD (.str Str.empty) = .str (o.getD Str.empty) := by cases o <;> rfl

theorem c_judged {T : TopF hb} (W : Tops hb T) (hchk : Callable T prog w n "_check_parenthesis" checkG) : Callable T prog w (n + 1) "_law_judged" (fun ds d => ∃ (m b br : Nat × Nat) (ans : Bool), jres m b br = some ans ∧ ds = [pairD m, pairD b, .str ⟨#[br.1, br.2]⟩] ∧ d = .bool ans) := by
  refine W.fn (k := 31) (ps := ["marked", "bare", "brackets"]) (by decide) ⟨rfl, rfl, by decide, by decide, by decide⟩ rfl (fun _ _ vs h => by obtain ⟨a, b, c, rfl⟩ := len3 h rfl; kernel_rfl) (fun ds d ⟨_, _, _, _, _, h, _⟩ => by rw [h]; rfl) (fun A L f pm cd ds d ⟨m, b, br, ans, hj, hds, hd⟩ => ?_)
  subst hds; subst hd
  unfold jres at hj
  split at hj
  · rename_i hc
    rw [Bool.and_eq_true, decide_eq_true_iff] at hc
    have hn' : (((jkvs m b br).map fun p => (p.1, PyData.str p.2)).map (·.1)).Nodup := by rw [List.map_map]; exact hc.1
    refine EX.cons (ST.assign (d := dictD ((jkvs m b br).map fun p => (p.1, PyData.str p.2))) (.dict T (.cons (.itemT (.name (d := pairD m) rfl) .int (by decide) (by decide) rfl) .strc (.cons (.itemT (.name (d := pairD m) rfl) .int (by decide) (by decide) rfl) .strc
      (.cons (.itemT (.name (d := pairD b) rfl) .int (by decide) (by decide) rfl) (.itemS (.name rfl) .int (by decide) rfl) (.cons (.itemT (.name (d := pairD b) rfl) .int (by decide) (by decide) rfl) (.itemS (.name rfl) .int (by decide) rfl) .nil)))) hn') (.inr ⟨rfl, _, rfl⟩) noOwn) ?_
    refine EX.one (ST.ret (.call T hchk rfl (Nat.le_refl _) (.cons (.methS F.slot_str_join F.type_str_join .strc (.cons (.comp (ρc := [("signs", dictD ((jkvs m b br).map fun p => (p.1, PyData.str p.2)))]) (ys := (jstrs m b br).map PyData.str) (EI.conv (ys := (List.range 6).map natD) (EI.range1 T (m := 6) rfl W.range (.cons .int .nil) rfl (by decide)) rfl) (.of rfl rfl rfl (by decide)) (.cons rfl rfl (.inl rfl) .nil) (fun C => ?_) (Nat.le_of_ble_eq_true rfl)) .nil) (.join hc.2)) .nil) ⟨_, ans, hj, rfl, rfl⟩))
    refine CL.conv (CL.fm (f := natD) (g := fun i : Nat => some (PyData.str ((aget (jkvs m b br) (i : Nat)).getD Str.empty))) (fun it acc => turn_one _ _ _ _ _ _ it acc _) (List.range 6) (fun i _ => ⟨_, .name rfl, sub_new sub_refl rfl, .nil, fun v hv => by
      cases hv
      exact .conv (.dictGet (EV.toR (.name rfl)) (.cons (.name rfl) (.cons .strc .nil))) (by rw [dget_map PyData.str]; exact getD_str _)⟩)) ?_
    rw [filterMap_some']
    unfold jstrs
    rw [List.map_map]
    rfl
  · cases hj

theorem EX.out {sts : List Stmt} {ρ' ρ'' : Rho} {ω' : Omega} (h : EX prog w hb n A env ρ ω sts (.next ρ' ω')) (c : Cov ρ' ρ'') : EX prog w hb n A env ρ ω sts (.next ρ'' ω') := .mk fun s₀ S₀ Wt s Q E x hQ =>
  h.run s₀ S₀ Wt s Q E x fun f s' o => hQ f s' ⟨o.1, o.2.cx.sub c.sub, o.2.sx, o.2.go⟩

/-- what an earlier and a later pair make of the judge -/
noncomputable def okP (e l : Nat × Nat) : Bool := match jres e l (40, 41), jres l e (40, 41), jres e l (41, 40) with
  | some f, some f', some w => f == f' && !(!f && w)
  | _, _, _ => false
noncomputable def valP (e l : Nat × Nat) : Nat := match jres e l (40, 41), jres e l (41, 40) with
  | some true, some true => 2
  | some false, some false => 1
  | _, _ => 0
noncomputable def turnN (pg : List (Nat × Nat)) : Nat := (List.range 3).foldl (fun t k => (pg.drop (k + 1)).foldl (fun t l => t + valP (pg.getD k (0, 0)) l) t) 0
noncomputable def okT (pg : List (Nat × Nat)) : Bool := pg.length == 3 && (List.range 3).all fun k => (pg.drop (k + 1)).all fun l => okP (pg.getD k (0, 0)) l

theorem okP_cases {e l : Nat × Nat} (h : okP e l = true) : ∃ f w, jres e l (40, 41) = some f ∧ jres l e (40, 41) = some f ∧ jres e l (41, 40) = some w ∧ ((f = true ∧ w = true ∧ valP e l = 2) ∨ (f = false ∧ w = false ∧ valP e l = 1) ∨ (f = true ∧ w = false ∧ valP e l = 0)) := by
  unfold okP at h
  split at h
  · rename_i f f' w h1 h2 h3
    rw [Bool.and_eq_true] at h
    have e1 : f = f' := by simpa using h.1
    refine ⟨f, w, h1, by rw [h2, e1], h3, ?_⟩
    unfold valP
    rw [h1, h3]
    cases f <;> cases w <;> simp at h ⊢
  · cases h

theorem c_turned {T : TopF hb} (W : Tops hb T) (hchk : Callable T prog w n "_check_parenthesis" checkG) : Callable T prog w (n + 2) "_law_turned" (fun ds d => ∃ (pg : List (Nat × Nat)) (odd : Bool), okT pg = true ∧ ds = [pgD pg, .bool odd] ∧ d = .int (turnN pg : Nat)) := by
  refine W.fn (k := 32) (ps := ["pairing", "odd"]) (by decide) ⟨rfl, rfl, by decide, by decide, by decide⟩ rfl (fun _ _ vs h => by obtain ⟨a, b, rfl⟩ := len2 h rfl; kernel_rfl) (fun ds d ⟨_, _, _, h, _⟩ => by rw [h]; rfl) (fun A L f pm cd ds d ⟨pg, odd, hok, hds, hd⟩ => ?_)
  subst hds; subst hd
  unfold okT at hok
  rw [Bool.and_eq_true] at hok
  have hl : pg.length = 3 := by simpa using hok.1
  have J := c_judged W hchk
  refine EX.cons (ST.assign (d := natD 0) .int (.inl rfl) noOwn) ?_
  refine EX.cons (ST.for_ (EI.conv (ys := (List.range 3).map natD) (EI.range1 T (m := 3) rfl W.range (.cons .int .nil) rfl (by decide)) rfl) (FL.inv (f := natD) (fun _ _ => True) (fun t : Nat => [("turned", natD t), ("pairing", pgD pg), ("odd", .bool odd)]) (fun _ => []) (fun t k => (pg.drop (k + 1)).foldl (fun t l => t + valP (pg.getD k (0, 0)) l) t) (List.range 3) 0 0 trivial
    (fun j t k hj _ => ⟨trivial, _, [("turned", natD ((pg.drop (k + 1)).foldl (fun t l => t + valP (pg.getD k (0, 0)) l) t)), ("earlier", pairD (pg.getD k (0, 0))), ("k", natD k), ("pairing", pgD pg), ("odd", .bool odd)], .name (.inl rfl) noOwn, ?_, .cons rfl (.cons rfl (.cons rfl .nil))⟩))) ?_
  · have hk : k < 3 := by
      have := List.mem_of_getElem? hj
      simpa using this
    refine EX.cons (ST.assign (d := pairD (pg.getD k (0, 0))) (.itemL (EV.toR (.name (d := pgD pg) rfl)) (.name rfl) (Int.natCast_nonneg _) (by omega) ?_) (.inl rfl) noOwn) ?_
    · rw [Int.toNat_natCast, List.getElem?_map, List.getElem?_eq_getElem (by omega)]
      simp [List.getD, List.getElem?_eq_getElem (show k < pg.length by omega)]
    refine EX.one (ST.cast (ρ := [("earlier", pairD (pg.getD k (0, 0))), ("k", natD k), ("turned", natD t), ("pairing", pgD pg), ("odd", .bool odd)]) (out := .next [("turned", natD ((pg.drop (k + 1)).foldl (fun t l => t + valP (pg.getD k (0, 0)) l) t)), ("earlier", pairD (pg.getD k (0, 0))), ("k", natD k), ("pairing", pgD pg), ("odd", .bool odd)] []) (ST.for_ (EI.conv (ys := (pg.drop (k + 1)).map pairD) (EI.list (.sliceFrom (a := k + 1) (.name (d := pgD pg) rfl) (.addN (b := 1) (.name rfl) .int) (by simp; omega))) (by rw [List.map_drop])) (FL.sub (FL.inv (f := pairD) (fun _ _ => True) (fun t : Nat => [("turned", natD t), ("earlier", pairD (pg.getD k (0, 0))), ("k", natD k), ("pairing", pgD pg), ("odd", .bool odd)]) (fun _ => []) (fun t l => t + valP (pg.getD k (0, 0)) l) (pg.drop (k + 1)) 0 t trivial
      (fun i t l hi _ => ⟨trivial, _, [("turned", natD (t + valP (pg.getD k (0, 0)) l)), ("earlier", pairD (pg.getD k (0, 0))), ("k", natD k), ("pairing", pgD pg), ("odd", .bool odd)], .name (.inl rfl) noOwn, ?_, .cons rfl (.cons rfl (.cons rfl (.cons rfl (.cons rfl .nil))))⟩)) (Cov.cons rfl (Cov.cons rfl (Cov.cons rfl (Cov.cons rfl (Cov.cons rfl Cov.nil))))).sub)) rfl)
    have hp : okP (pg.getD k (0, 0)) l = true := List.all_eq_true.mp (List.all_eq_true.mp hok.2 k (List.mem_range.mpr hk)) l (List.mem_of_getElem? hi)
    obtain ⟨f, w', h1, h2, h3, hc⟩ := okP_cases hp
    refine EX.cons (ST.assign (d := .bool f) (.ite (c := odd) (.val (.name rfl)) (fun _ => .call T J rfl (Nat.le_refl _) (.cons (.name rfl) (.cons (.name rfl) (.cons .strc .nil))) ⟨pg.getD k (0, 0), l, (40, 41), f, h1, rfl, rfl⟩) (fun _ => .call T J rfl (Nat.le_refl _) (.cons (.name rfl) (.cons (.name rfl) (.cons .strc .nil))) ⟨l, pg.getD k (0, 0), (40, 41), f, h2, rfl, rfl⟩)) (.inl rfl) noOwn) ?_
    refine EX.cons (ST.assign (d := .bool w') (.call T J rfl (Nat.le_refl _) (.cons (.name rfl) (.cons (.name rfl) (.cons .strc .nil))) ⟨pg.getD k (0, 0), l, (41, 40), w', h3, rfl, rfl⟩) (.inl rfl) noOwn) ?_
    rcases hc with ⟨rfl, rfl, hv⟩ | ⟨rfl, rfl, hv⟩ | ⟨rfl, rfl, hv⟩ <;> rw [hv]
    · refine EX.out (ρ' := [("turned", .int ((t : Int) + 2)), ("within", .bool true), ("fits", .bool true), ("later", pairD l), ("turned", natD t), ("earlier", pairD (pg.getD k (0, 0))), ("k", natD k), ("pairing", pgD pg), ("odd", .bool odd)]) ?_ (.cons rfl (.cons rfl (.cons rfl (.cons rfl (.cons rfl .nil)))))
      exact EX.one (ST.if_ (b := true) (EB.conv (.and2 (.cmp (.name rfl) .boolc .isBool) fun _ => .cmp (.name rfl) .boolc .isBool) rfl) (fun _ => EX.one (ST.augAdd rfl .int (.inl rfl) noOwn)) (fun h => nomatch h))
    · refine EX.out (ρ' := [("turned", .int ((t : Int) + 1)), ("within", .bool false), ("fits", .bool false), ("later", pairD l), ("turned", natD t), ("earlier", pairD (pg.getD k (0, 0))), ("k", natD k), ("pairing", pgD pg), ("odd", .bool odd)]) ?_ (.cons rfl (.cons rfl (.cons rfl (.cons rfl (.cons rfl .nil)))))
      exact EX.one (ST.if_ (b := false) (EB.conv (.and2 (.cmp (.name rfl) .boolc .isBool) fun _ => .cmp (.name rfl) .boolc .isBool) rfl) (fun h => nomatch h) (fun _ => EX.one (ST.if_ (b := true) (EB.conv (.and2 (.cmp (.name rfl) .boolc .isBool) fun _ => .cmp (.name rfl) .boolc .isBool) rfl) (fun _ => EX.one (ST.augAdd rfl .int (.inl rfl) noOwn)) (fun h => nomatch h))))
    · refine EX.out (ρ' := [("within", .bool false), ("fits", .bool true), ("later", pairD l), ("turned", natD t), ("earlier", pairD (pg.getD k (0, 0))), ("k", natD k), ("pairing", pgD pg), ("odd", .bool odd)]) ?_ (.cons rfl (.cons rfl (.cons rfl (.cons rfl (.cons rfl .nil)))))
      exact EX.one (ST.if_ (b := false) (EB.conv (.and2 (.cmp (.name rfl) .boolc .isBool) fun _ => .cmp (.name rfl) .boolc .isBool) rfl) (fun h => nomatch h) (fun _ => EX.one (ST.if_ (b := false) (EB.conv (.and2 (.cmp (.name rfl) .boolc .isBool) fun _ => .cmp (.name rfl) .boolc .isBool) rfl) (fun h => nomatch h) (fun _ => EX.one (ST.if_ (b := false) (EB.conv (.or2 (.cmp (.name rfl) .boolc .isNotBool) fun _ => .cmp (.name rfl) .boolc .isNotBool) rfl) (fun h => nomatch h) (fun _ => .nil))))))
  · exact EX.one (ST.ret (.name rfl))
end
end Mine

namespace Mine
open PySem PySem.Calls PyProof.Rows

theorem set_plain {prog : Program} {w : World} {A : Around} {E : Value → Shared → Prop} {s : Shared} {l : Addr} {items : Array Value} {k : Int} {t : Tok} {v : Value} {Q : Unit → Shared → Prop} (hl : s.heap.PlainList l items) (h0 : 0 ≤ k) (hfit : k < 2 ^ 63) (hn : k < items.size)
    (hQ : ∀ h', h'.PlainList l (items.setIfInBounds k.toNat v) → Heap.SameBut l s.heap h' → Q () { s with heap := h' }) : wpAny (model prog w) A (setItem (.ref l) (.int k t) v) Q E s := by
  obtain ⟨ne, ho⟩ := id hl
  have hT : s.TypeIs (.ref l) "list" := hl.isList.typeIs
  unfold setItem
  try with_reducible refine wpAny_holding ?_
  first | refine wpAny_bind (wpAny_pure ?_) | skip
  refine wpAny_bind (wpAny_sequenceKey hT (by decide) ?_)
  refine wpAny_bind (wpAny_callSpecial?_slot (name := Str.ofString "__setitem__") hT PySem.slot_list_setitem
    (wpAny_call_entry PySem.slot_list_setitem hT PySem.entry_list_setitem ?_ (PySem.args_list_setitem _ _ _)))
  show wpAny _ _ (Builtin.List.listSubscript? (.int k t) >>= _) _ _ s
  refine wpAny_bind (wpAny_listSubscript_int (fitsIndex_of h0 hfit) ?_)
  clear hfit
  obtain ⟨j, rfl⟩ := Int.eq_ofNat_of_zero_le h0
  have hj : j < items.size := by omega
  have hx' : items[j]? = some items[j] := Array.getElem?_eq_getElem hj
  show wpAny _ _ ((seqItemAt l j >>= fun r => pure (r.map (j, ·))) >>= _) _ _ s
  refine wpAny_bind (wpAny_bind (wpAny_seqItemAt ho rfl (wpAny_pure ?_)))
  rw [hx']
  show wpAny _ _ (setSeqItemAt l j v >>= _) _ _ s
  have hp : (s.heap.update l (Obj.mapSeq (·.setIfInBounds j v))).PlainList l (items.setIfInBounds j v) := by
    obtain ⟨n', hm⟩ : ∃ n', Obj.mapSeq (·.setIfInBounds j v) { cls := .type "list", data := .seq items ne } = { cls := .type "list", data := .seq (items.setIfInBounds j v) n' } := ⟨_, rfl⟩
    exact ⟨n', by rw [Heap.get?_update_self _ ho (by rw [hm]; rfl), hm]⟩
  refine wpAny_bind (wpAny_setSeqItemAt ho rfl ?_)
  first
    | exact wpAny_bind (wpAny_pure (wpAny_pure ⟨.none, rfl, wpAny_pure (hQ _ hp (Heap.SameBut.update ..))⟩))
    | exact wpAny_pure ⟨.none, rfl, wpAny_pure (hQ _ hp (Heap.SameBut.update ..))⟩

/-- the matrix -/
abbrev Mx6 := List (List Int)
noncomputable def matD (M : Mx6) : PyData := .list (M.map fun r => .list (r.map .int))
noncomputable def IntsAre' (vs : List Value) (ns : List Int) : Prop := vs.length = ns.length ∧ ∀ (i : Nat) v k, vs[i]? = some v → ns[i]? = some k → ∃ t, v = .int k t
structure MatAt (h : Heap) (R : Addr) (rs : List Addr) (M : Mx6) : Prop where
  top : h.PlainList R (rs.map Value.ref).toArray
  len : rs.length = M.length
  row : ∀ (i : Nat) r ns, rs[i]? = some r → M[i]? = some ns → ∃ vs : List Value, h.PlainList r vs.toArray ∧ IntsAre' vs ns

theorem ints_reps {S : ASet} {h : Heap} {vs : List Value} {ns : List Int} (x : IntsAre' vs ns) : Reps S h vs (ns.map .int) :=
  ⟨by simp [x.1], fun i v d hv hd => by
    rw [List.getElem?_map] at hd
    cases hn : ns[i]? with
    | none => rw [hn] at hd; cases hd
    | some k =>
      rw [hn] at hd; cases hd
      obtain ⟨t, rfl⟩ := x.2 i v k hv hn
      exact .int _ _⟩
theorem MatAt.rep {S : ASet} {h : Heap} {R : Addr} {rs : List Addr} {M : Mx6} (m : MatAt h R rs M) (hR : ¬ S R) (hr : ∀ r ∈ rs, ¬ S r) : Rep S h (.ref R) (matD M) := by
  obtain ⟨n, e⟩ := m.top
  refine .listIs (vs := rs.map Value.ref) (n := n) hR e ⟨by simp [m.len], fun i v d hv hd => ?_⟩
  rw [List.getElem?_map] at hv hd
  cases h1 : rs[i]? with
  | none => rw [h1] at hv; cases hv
  | some r =>
    cases h2 : M[i]? with
    | none => rw [h2] at hd; cases hd
    | some ns =>
      rw [h1] at hv; rw [h2] at hd
      cases hv; cases hd
      obtain ⟨vs, ⟨k, e'⟩, hi⟩ := m.row i r ns h1 h2
      exact .listIs (hr r (List.mem_of_getElem? h1)) e' (ints_reps hi)
theorem MatAt.keep {h h' : Heap} {R : Addr} {rs : List Addr} {M : Mx6} (m : MatAt h R rs M) (k : ∀ b o, (b = R ∨ b ∈ rs) → h.get? b = some o → h'.get? b = some o) : MatAt h' R rs M :=
  ⟨m.top.at fun o e => k R o (.inl rfl) e, m.len, fun i r ns a b => let ⟨vs, p, q⟩ := m.row i r ns a b; ⟨vs, p.at fun o e => k r o (.inr (List.mem_of_getElem? a)) e, q⟩⟩

noncomputable def scalar : PyData → Bool
  | .int _ | .bool _ | .none | .str _ => true
  | _ => false
theorem Rep.scalar {S T : ASet} {h : Heap} {v : Value} {d : PyData} (r : Rep S h v d) (hd : scalar d = true) : Rep T h v d := by
  cases r with
  | none => exact .none
  | bool b => exact .bool b
  | int i t => exact .int i t
  | str x t => exact .str x t
  | list => exact nomatch hd
  | tuple => exact nomatch hd
  | dict => exact nomatch hd

section
variable (prog : Program) (w : World) (hb : Heap) (n : Nat) (A : Around) (env : Env) (s₀ : Shared) (S₀ : ASet) (R : Addr) (Rs : List Addr)
/-- the state while the matrix is at work -/
structure Mt (ρ : Rho) (M : Mx6) (s : Shared) : Prop where
  cx : Cx hb n A env s₀ S₀ (fun b => b = R ∨ b ∈ Rs) ρ [] s
  at_ : At env s.heap "rows" (.ref R)
  mat : ∃ rs, rs.Perm Rs ∧ MatAt s.heap R rs M
  ap : ∀ b, (b = R ∨ b ∈ Rs) → b ≠ env.locals ∧ ∀ y, (y, b) ∉ env.cells
  nR : R ∉ Rs
  nd : Rs.Nodup
noncomputable def Tm : ASet := fun b => b = R ∨ b ∈ Rs ∨ b = env.locals ∨ ∃ y, (y, b) ∈ env.cells
inductive OutM where
  | next (ρ : Rho) (M : Mx6)
  | ret (d : PyData)
noncomputable def OkM (s : Shared) (out : OutM) (f : Flow) (s' : Shared) : Prop := match out with
  | .next ρ M => f = .next ∧ Mt hb n A env s₀ S₀ R Rs ρ M s' ∧ Go (Tm env R Rs) s s'
  | .ret d => ∃ v, f = .ret v ∧ Go0 s₀ s' ∧ Rep S₀ s'.heap v d
structure HT (ρ : Rho) (M : Mx6) (sts : List Stmt) (out : OutM) : Prop where
  run : ∀ (s : Shared) (Q : Flow → Shared → Prop) (E : Value → Shared → Prop), Mt hb n A env s₀ S₀ R Rs ρ M s → (∀ f s', OkM hb n A env s₀ S₀ R Rs s out f s' → Q f s') → wpAny (model prog w) A (execs sts env) Q E s
structure HS (ρ : Rho) (M : Mx6) (st : Stmt) (out : OutM) : Prop where
  run : ∀ (s : Shared) (Q : Flow → Shared → Prop) (E : Value → Shared → Prop), Mt hb n A env s₀ S₀ R Rs ρ M s → (∀ f s', OkM hb n A env s₀ S₀ R Rs s out f s' → Q f s') → wpAny (model prog w) A (exec st env) Q E s
end

section
variable {prog : Program} {w : World} {hb : Heap} {n : Nat} {A : Around} {env : Env} {s₀ s s' s'' : Shared} {S₀ : ASet} {R : Addr} {Rs : List Addr} {ρ ρ' ρ₂ : Rho} {M M' : Mx6} {out : OutM}

theorem Mt.sub (x : Mt hb n A env s₀ S₀ R Rs ρ M s) (h : ∀ y d, ρ'.lookup y = some d → ρ.lookup y = some d) : Mt hb n A env s₀ S₀ R Rs ρ' M s := ⟨x.cx.sub h, x.at_, x.mat, x.ap, x.nR, x.nd⟩
theorem At.keep1 {y : Str} {v : Value} (a : At env s.heap y v) (k1 : ∀ o, s.heap.get? env.locals = some o → s'.heap.get? env.locals = some o) (k2 : ∀ z c o, (z, c) ∈ env.cells → s.heap.get? c = some o → s'.heap.get? c = some o) : At env s'.heap y v := by
  rcases a with ⟨hk, m, hn, hm⟩ | ⟨hk, c, hc, o, e, d⟩
  · exact .inl ⟨hk, m, hn.at' k1, hm⟩
  · exact .inr ⟨hk, c, hc, o, k2 _ c o (mem_of_lookup hc) e, d⟩

/-- the matrix can be read as data -/
theorem Mt.opened (x : Mt hb n A env s₀ S₀ R Rs ρ M s) : Cx hb n A env s₀ S₀ (fun _ => False) (("rows", matD M) :: ρ) [] s := by
  have x' := x.cx.wtDown (Wt := fun _ => False) fun b q => q.elim
  refine { x' with loc := fun y d e => ?_ }
  rcases lookup_cons_cases e with ⟨rfl, rfl⟩ | ⟨_, e⟩
  · obtain ⟨rs, hp, hm⟩ := x.mat
    have no : ∀ b, (b = R ∨ b ∈ Rs) → ¬ Sx S₀ (fun _ => False) env [] b := fun b hb' q => by
      rcases q with q | q | q | ⟨y, q⟩ | ⟨p, hp, _⟩
      · obtain ⟨o, e⟩ := x.cx.s0 b q
        rw [(x.cx.wt b hb').2] at e; cases e
      · exact q
      · exact (x.ap b hb').1 q
      · exact (x.ap b hb').2 y q
      · cases hp
    exact ⟨_, x.at_, hm.rep (no R (.inl rfl)) fun r hr => no r (.inr (hp.mem_iff.mp hr))⟩
  · exact x'.loc y d e

theorem Mt.closed (x : Mt hb n A env s₀ S₀ R Rs ρ M s) (y : Cx hb n A env s₀ S₀ (fun _ => False) ρ₂ [] s') (g : Go (Mx env []) s s') (hc : Cov ρ₂ ρ') (hs : ∀ p ∈ ρ', scalar p.2 = true) (hat : At env s'.heap "rows" (.ref R)) : Mt hb n A env s₀ S₀ R Rs ρ' M s' := by
  obtain ⟨rs, hp, hm⟩ := x.mat
  have nm : ∀ b, (b = R ∨ b ∈ Rs) → ¬ Mx env [] b := fun b hb' q => by
    rcases q with q | ⟨z, q⟩ | ⟨p, hp, _⟩
    · exact (x.ap b hb').1 q
    · exact (x.ap b hb').2 z q
    · cases hp
  refine ⟨{ y with wt := fun b q => ⟨let ⟨o, e⟩ := (x.cx.wt b q).1; ⟨o, g.kp b o (nm b q) e⟩, (x.cx.wt b q).2⟩, loc := fun z d e => ?_, own := fun p hp => nomatch hp }, hat, ⟨rs, hp, hm.keep fun b o hb' e => g.kp b o (nm b (hb'.imp id fun q => hp.mem_iff.mp q)) e⟩, x.ap, x.nR, x.nd⟩
  obtain ⟨v, a, r⟩ := y.loc z d (hc.sub z d e)
  exact ⟨v, a, r.scalar (hs (z, d) (PySem.mem_of_lookup e))⟩
theorem Go.toTm (g : Go (Mx env []) s s') : Go (Tm env R Rs) s s' := g.mono fun b q => by
  rcases q with q | q | ⟨p, hp, _⟩
  · exact .inr (.inr (.inl q))
  · exact .inr (.inr (.inr q))
  · cases hp

theorem HT.nil : HT prog w hb n A env s₀ S₀ R Rs ρ M [] (.next ρ M) := ⟨fun s Q E x hQ => wpAny_execs_nil (hQ _ _ ⟨rfl, x, .refl⟩)⟩
theorem HT.cons {st : Stmt} {rest : List Stmt} (h : HS prog w hb n A env s₀ S₀ R Rs ρ M st (.next ρ' M')) (hr : HT prog w hb n A env s₀ S₀ R Rs ρ' M' rest out) : HT prog w hb n A env s₀ S₀ R Rs ρ M (st :: rest) out := ⟨fun s Q E x hQ =>
  wpAny_execs_cons (h.run s _ E x fun f s₁ ⟨hf, x₁, g₁⟩ => by
    subst hf
    refine hr.run s₁ Q E x₁ fun f s₂ h₂ => hQ f s₂ ?_
    cases out with
    | ret d => exact h₂
    | next ρ M => exact ⟨h₂.1, h₂.2.1, g₁.tr h₂.2.2⟩)⟩
theorem HT.consRet {st : Stmt} {rest : List Stmt} {d : PyData} (h : HS prog w hb n A env s₀ S₀ R Rs ρ M st (.ret d)) : HT prog w hb n A env s₀ S₀ R Rs ρ M (st :: rest) (.ret d) := ⟨fun s Q E x hQ =>
  wpAny_execs_cons (h.run s _ E x fun f s₁ h₁ => by
    obtain ⟨v, rfl, g, r⟩ := h₁
    exact hQ _ s₁ ⟨v, rfl, g, r⟩)⟩
theorem HT.sub {sts : List Stmt} (h : HT prog w hb n A env s₀ S₀ R Rs ρ' M sts out) (c : Cov ρ ρ') : HT prog w hb n A env s₀ S₀ R Rs ρ M sts out := ⟨fun s Q E x hQ => h.run s Q E (x.sub c.sub) hQ⟩
theorem HT.one {st : Stmt} (h : HS prog w hb n A env s₀ S₀ R Rs ρ M st out) : HT prog w hb n A env s₀ S₀ R Rs ρ M [st] out := by
  cases out with
  | next ρ M => exact .cons h .nil
  | ret d => exact .consRet h
theorem HS.ret {e : Expr} {pos : Pos} {d : PyData} (h : EV prog w hb n A env (("rows", matD M) :: ρ) [] e d) : HS prog w hb n A env s₀ S₀ R Rs ρ M (.Return (some e) pos) (.ret d) := ⟨fun s Q E x hQ =>
  wpAny_Return_some (h.run s₀ S₀ _ s _ E x.opened fun v s₁ g r => hQ _ s₁ ⟨v, rfl, x.cx.go.tr g, r.weak Sx.s0⟩)⟩
theorem Mt.keep (x : Mt hb n A env s₀ S₀ R Rs ρ M s) (g : Go0 s s') : Mt hb n A env s₀ S₀ R Rs ρ M s' := ⟨x.cx.keep g, x.at_.kp g.k0, let ⟨rs, hp, hm⟩ := x.mat; ⟨rs, hp, hm.keep fun b o _ e => g.k0 b o e⟩, x.ap, x.nR, x.nd⟩
theorem HS.if_ {t : Expr} {body orelse : List Stmt} {pos : Pos} {b : Bool} (ht : EB prog w hb n A env (("rows", matD M) :: ρ) [] t b) (h1 : b = true → HT prog w hb n A env s₀ S₀ R Rs ρ M body out) (h2 : b = false → HT prog w hb n A env s₀ S₀ R Rs ρ M orelse out) : HS prog w hb n A env s₀ S₀ R Rs ρ M (.If t body orelse pos) out := ⟨fun s Q E x hQ =>
  wpAny_If (ht.run s₀ S₀ _ s _ E x.opened fun s₁ g => by
    have up : ∀ f s₂, OkM hb n A env s₀ S₀ R Rs s₁ out f s₂ → Q f s₂ := fun f s₂ h => hQ f s₂ (by
      cases out with
      | ret d => exact h
      | next ρ M => exact ⟨h.1, h.2.1, (g.mono fun _ q => q.elim).tr h.2.2⟩)
    cases b with
    | true => exact (h1 rfl).run s₁ Q E (x.keep g) up
    | false => exact (h2 rfl).run s₁ Q E (x.keep g) up)⟩
end
end Mine

namespace Mine
open PySem PySem.Calls PyProof.Rows

section
variable {prog : Program} {w : World} {hb : Heap} {n : Nat} {A : Around} {env : Env} {s₀ s s' s'' sr : Shared} {S₀ Wt : ASet} {R : Addr} {Rs : List Addr} {ρ ρ' ρ₂ : Rho} {ω : Omega} {M M' : Mx6} {out : OutM}

theorem store_keep {Mo : Model} {E : Value → Shared → Prop} {y : Str} {v : Value} {d : PyData} {Q : Unit → Shared → Prop} (x : Cx hb n A env s₀ S₀ Wt ρ ω s) (hy : Own env y) (r : Rep (Sx S₀ Wt env ω) s.heap v d) (hω : ∀ p ∈ ω, p.1 ≠ y)
    (h : ∀ s', Go (Mx env ω) s s' → Cx hb n A env s₀ S₀ Wt ((y, d) :: ρ) ω s' → (∀ z u, z ≠ y → At env s.heap z u → At env s'.heap z u) → Q () s') : wpAny Mo A (storeName env y v) Q E s := by
  have hρ : ∀ z d', List.lookup z ((y, d) :: ρ) = some d' → (z = y ∧ Rep (Sx S₀ Wt env ω) s.heap v d') ∨ (z ≠ y ∧ ρ.lookup z = some d') := fun z d' e => by
    rcases lookup_cons_cases e with ⟨h1, h2⟩ | h1
    · exact .inl ⟨h1, h2 ▸ r⟩
    · exact .inr h1
  rcases hy with hk | ⟨hk, c, hc⟩
  · obtain ⟨m, hn⟩ := x.ns
    refine wpAny_storeName_local hk hn (fun h' hn' hs => ?_) (by rw [x.kind]; rfl)
    have z := x.storeL (tk := s.toks + 1) hk hn hn' hs hω hρ
    exact h _ z.1 z.2 fun y' u hne a => a.other (a := env.locals) hne hn hn' hs fun c hc => (x.cell y' c (PySem.mem_of_lookup hc)).2.2
  · obtain ⟨v₀, hv₀⟩ := (x.cell y c (PySem.mem_of_lookup hc)).1
    refine wpAny_storeName_cell x.kind hk hc hv₀ fun h' hn' hs => ?_
    have z := x.storeC (tk := s.toks) hk hc hn' hs hω hρ
    refine h _ z.1 z.2 fun y' u hne a => ?_
    rcases a with ⟨hk', m', hm', e⟩ | ⟨hk', c', hl, hv⟩
    · exact .inl ⟨hk', m', hm'.sameBut hs (Ne.symm (x.cell y c (PySem.mem_of_lookup hc)).2.2), e⟩
    · exact .inr ⟨hk', c', hl, hv.sameBut hs fun q => hne (name_of_addr x.apart (PySem.mem_of_lookup hl) (q ▸ PySem.mem_of_lookup hc))⟩

theorem Mt.nm (x : Mt hb n A env s₀ S₀ R Rs ρ M s) : ∀ b, (b = R ∨ b ∈ Rs) → ¬ Mx env [] b := fun b hb' q => by
  rcases q with q | ⟨z, q⟩ | ⟨p, hp, _⟩
  · exact (x.ap b hb').1 q
  · exact (x.ap b hb').2 z q
  · cases hp
/-- a name's store, the matrix being at work -/
theorem Mt.store {Mo : Model} {E : Value → Shared → Prop} {y : Str} {v : Value} {d : PyData} {Q : Unit → Shared → Prop} (x : Mt hb n A env s₀ S₀ R Rs ρ M s) (hy : Own env y) (hne : ("rows" : Str) ≠ y) (r : Rep (Sx S₀ (fun b => b = R ∨ b ∈ Rs) env []) s.heap v d)
    (h : ∀ s', Mt hb n A env s₀ S₀ R Rs ((y, d) :: ρ) M s' → Go (Mx env []) s s' → Q () s') : wpAny Mo A (storeName env y v) Q E s :=
  store_keep x.cx hy r (fun p hp => nomatch hp) fun s' g x' o => h s' ⟨x', o _ _ hne x.at_, let ⟨rs, hp, hm⟩ := x.mat; ⟨rs, hp, hm.keep fun b o hb' e => g.kp b o (x.nm b (hb'.imp id fun q => hp.mem_iff.mp q)) e⟩, x.ap, x.nR, x.nd⟩ g

/-- y = e, a scalar -/
theorem HS.assign {y : Str} {p pos : Pos} {e : Expr} {d : PyData} (h : EV prog w hb n A env (("rows", matD M) :: ρ) [] e d) (hd : scalar d = true) (hy : Own env y) (hne : (("rows" : Str) == y) = false) (hs : swapsWith e (some (.Name y p)) pos.line env = pure false := by rfl) : HS prog w hb n A env s₀ S₀ R Rs ρ M (.Assign [.Name y p] e pos) (.next ((y, d) :: ρ) M) := ⟨fun s Q E x hQ =>
  wpAny_Assign_Name (h.run s₀ S₀ _ s _ E x.opened fun v s₁ g r => (x.keep g).store hy (by simpa using hne) (r.scalar hd) fun s₂ x₂ g₂ => hQ _ s₂ ⟨rfl, x₂, (g.mono fun _ q => q.elim).tr (Go.toTm g₂)⟩) hs⟩

/-- a target that takes ints -/
structure TM (prog : Program) (w : World) (hb : Heap) (n : Nat) (A : Around) (env : Env) (s₀ : Shared) (S₀ : ASet) (R : Addr) (Rs : List Addr) (ρ : Rho) (t : Expr) (d : PyData) (ρ' : Rho) : Prop where
  run : ∀ (M : Mx6) (s : Shared) (v : Value) (Q : Unit → Shared → Prop) (E : Value → Shared → Prop), Mt hb n A env s₀ S₀ R Rs ρ M s → Rep (Sx S₀ (fun b => b = R ∨ b ∈ Rs) env []) s.heap v d → (∀ s', Mt hb n A env s₀ S₀ R Rs ρ' M s' → Go (Mx env []) s s' → Q () s') → wpAny (model prog w) A (assign t env v) Q E s
theorem TM.name {y : Str} {p : Pos} {d : PyData} (hy : Own env y) (hne : (("rows" : Str) == y) = false) : TM prog w hb n A env s₀ S₀ R Rs ρ (.Name y p) d ((y, d) :: ρ) := ⟨fun M s v Q E x r h => wpAny_assign_Name (x.store hy (by simpa using hne) r h)⟩
theorem TM.ofAC {t : Expr} {d : PyData} (h : AC prog w hb n A env ρ t d ρ') (hk : env.kindOf "rows" = some .cell) : TM prog w hb n A env s₀ S₀ R Rs ρ t d ρ' := ⟨fun M s v Q E x r hQ =>
  h.run s₀ S₀ _ s v Q E x.cx r fun s' o l => hQ s' ⟨o.cx, by
    rcases x.at_ with ⟨hk', _⟩ | ⟨hk', c, hc, ob, e, dd⟩
    · rw [hk] at hk'; cases hk'
    · exact .inr ⟨hk', c, hc, ob, l.kp c ob (x.cx.cell _ c (PySem.mem_of_lookup hc)).2.2 e, dd⟩, let ⟨rs, hp, hm⟩ := x.mat; ⟨rs, hp, hm.keep fun b o' hb' e => o.go.kp b o' (x.nm b (hb'.imp id fun q => hp.mem_iff.mp q)) e⟩, x.ap, x.nR, x.nd⟩ o.go⟩

theorem Mt.turn {W : ASet} (x : Mt hb n A env s₀ S₀ R Rs ρ M s) (g : Gw W s s') (p : Apart s₀ env (fun b => b = R ∨ b ∈ Rs) W) (hW : ∀ b o, W b → s.heap.get? b = some o → ¬ IsCont o) : Mt hb n A env s₀ S₀ R Rs ρ M s' :=
  ⟨x.cx.turn g p hW, x.at_.turn g p, let ⟨rs, hp, hm⟩ := x.mat; ⟨rs, hp, hm.keep fun b o hb' e => g.kp b o (fun q => p.wt b q (hb'.imp id fun q => hp.mem_iff.mp q)) e⟩, x.ap, x.nR, x.nd⟩

/-- the rest of a for, the matrix being at work -/
structure HF (prog : Program) (w : World) (hb : Heap) (n : Nat) (A : Around) (env : Env) (s₀ : Shared) (S₀ : ASet) (R : Addr) (Rs : List Addr) (ρ : Rho) (M : Mx6) (t : Expr) (body : List Stmt) (xs : List PyData) (out : OutM) : Prop where
  run : ∀ (sr s : Shared) (S : ASet) (I : Addr) (all : List PyData) (W : ASet) (St : Nat → Shared → Prop) (k : Nat) (Rr : Result → Shared → Prop), Itr prog w A t S I all W St → Apart s₀ env (fun b => b = R ∨ b ∈ Rs) W → (∀ b, W b → sr.heap.get? b = none) → Mt hb n A env s₀ S₀ R Rs ρ M s → Go (Tm env R Rs) sr s →
    (∀ b, Sx S₀ (fun b => b = R ∨ b ∈ Rs) env [] b → S b) → (∀ b, s.heap.get? b = none → S b) → St k s → k ≤ all.length → all.drop k = xs → (∀ f s', OkM hb n A env s₀ S₀ R Rs sr out f s' → Rr (.ok f) s') → codeAny (model prog w) A (.forLoop t (.ref I) body [] env) Rr s
theorem Tm.sx : ∀ b, Tm env R Rs b → Sx S₀ (fun b => b = R ∨ b ∈ Rs) env [] b := fun b q => by
  rcases q with q | q | q | q
  · exact .inr (.inl (.inl q))
  · exact .inr (.inl (.inr q))
  · exact .inr (.inr (.inl q))
  · exact .inr (.inr (.inr (.inl q)))
theorem goW {W : ASet} (x : Go (Tm env R Rs) sr s) (g : Gw W s s') (hr : ∀ b, W b → sr.heap.get? b = none) : Go (Tm env R Rs) sr s' :=
  have nw : ∀ b o, sr.heap.get? b = some o → ¬ W b := fun b o e q => by rw [hr b q] at e; cases e
  ⟨fun b o hb' e => g.kp b o (nw b o e) (x.kp b o hb' e), fun b o e => let ⟨o', e'⟩ := x.ex b o e; ⟨o', g.kp b o' (nw b o e) e'⟩, fun i gs e => g.gens i gs (x.gens i gs e), fun q => g.bare (x.bare q), g.drawn.trans x.drawn, g.os.trans x.os⟩
theorem HF.nil {t : Expr} {body : List Stmt} : HF prog w hb n A env s₀ S₀ R Rs ρ M t body [] (.next ρ M) := ⟨fun sr s S I all W St k Rr it ap hr x g₀ hS hn st hk hd hR => by
  have hk' : k = all.length := by
    have := congrArg List.length hd
    simp at this; omega
  subst hk'
  refine for_step (wpAny_mono (it.done s _ _ st fun s' g => hR .next s' ⟨rfl, x.turn g ap (fun b o hb' e => it.nc _ _ b o st hb' e), goW g₀ g hr⟩) (fun r s₁ h₁ => ?_) fun _ _ e => e)
  cases r with
  | none => exact h₁
  | some v => exact h₁.elim⟩
theorem HF.next {t : Expr} {body : List Stmt} {d : PyData} {xs : List PyData} {ρ'' : Rho} (ha : TM prog w hb n A env s₀ S₀ R Rs ρ t d ρ') (hb' : HT prog w hb n A env s₀ S₀ R Rs ρ' M body (.next ρ'' M')) (hr : HF prog w hb n A env s₀ S₀ R Rs ρ'' M' t body xs out) : HF prog w hb n A env s₀ S₀ R Rs ρ M t body (d :: xs) out :=
  ⟨fun sr s S I all W St k Rr it ap hr' x g₀ hS hn st hk hd hR => by
  obtain ⟨hd1, hd2, hk2⟩ := drop_cons hd
  refine for_item it st hd1 fun v s₁ g₁ st₁ r₁ => ?_
  have x₁ := x.turn g₁.gw ap (fun b o hb' e => it.nc _ _ b o st hb' e)
  refine ha.run M s₁ v _ _ x₁ (r₁ _ hS fun b q => x.cx.bd q) fun s₂ x₂ g₂ => ?_
  refine hb'.run s₂ _ _ x₂ fun f s₃ h₃ => ?_
  obtain ⟨rfl, x₃, g₃⟩ := h₃
  have hn₁ : ∀ b, s₁.heap.get? b = none → S b := fun b q => hn b (by
    cases e : s.heap.get? b with
    | none => rfl
    | some o => obtain ⟨o', e'⟩ := g₁.ex b o e; rw [q] at e'; cases e')
  have g₁₃ := (Go.toTm (R := R) (Rs := Rs) g₂).tr g₃
  obtain ⟨st₃, hn₃⟩ := turn_on it hn₁ st₁ g₁₃ fun b q => hS b (Tm.sx b q)
  exact hr.run sr s₃ S I all W St (k + 1) Rr it ap hr' x₃ ((goW g₀ g₁.gw hr').tr g₁₃) hS hn₃ st₃ hk2 hd2 hR⟩
theorem HF.ret {t : Expr} {body : List Stmt} {d r : PyData} {xs : List PyData} (ha : TM prog w hb n A env s₀ S₀ R Rs ρ t d ρ') (hb' : HT prog w hb n A env s₀ S₀ R Rs ρ' M body (.ret r)) : HF prog w hb n A env s₀ S₀ R Rs ρ M t body (d :: xs) (.ret r) :=
  ⟨fun sr s S I all W St k Rr it ap hr' x g₀ hS hn st hk hd hR => by
  obtain ⟨hd1, hd2, hk2⟩ := drop_cons hd
  refine for_item it st hd1 fun v s₁ g₁ st₁ r₁ => ?_
  have x₁ := x.turn g₁.gw ap (fun b o hb' e => it.nc _ _ b o st hb' e)
  refine ha.run M s₁ v _ _ x₁ (r₁ _ hS fun b q => x.cx.bd q) fun s₂ x₂ g₂ => ?_
  refine hb'.run s₂ _ _ x₂ fun f s₃ h₃ => ?_
  obtain ⟨v, rfl, g, rr⟩ := h₃
  exact hR _ s₃ ⟨v, rfl, g, rr⟩⟩
theorem HF.sub {t : Expr} {body : List Stmt} {xs : List PyData} (h : HF prog w hb n A env s₀ S₀ R Rs ρ' M t body xs out) (c : Cov ρ ρ') : HF prog w hb n A env s₀ S₀ R Rs ρ M t body xs out := ⟨fun sr s S I all W St k Rr it ap hr x => h.run sr s S I all W St k Rr it ap hr (x.sub c.sub)⟩
theorem HS.for_ {t iter : Expr} {body : List Stmt} {pos : Pos} {xs : List PyData} (hi : EI prog w hb n A env ρ [] t iter xs) (hf : HF prog w hb n A env s₀ S₀ R Rs ρ M t body xs out) (hs : ∀ x, foldedSetIterable iter env x = pure x := by intro _; rfl) : HS prog w hb n A env s₀ S₀ R Rs ρ M (.For t iter body [] pos) out := ⟨fun s Q E x hQ => by
  have key : ∀ (E' : Value → Shared → Prop), wpAny (model prog w) A (eval iter env) (fun x s₁ => wpAny (model prog w) A (pyIter x) (fun it s₂ =>
      codeAny (model prog w) A (.forLoop t it body [] env) (fun r s' => match r with | .ok f => Q f s' | .error e => cameBackBy (model prog w) A env E e s') s₂) E' s₁) E' s := fun E' =>
    hi.run s₀ S₀ _ s _ E' x.cx fun I S W St s₁ g it bg st => hf.run s s₁ S I xs W St 0 _ it (x.cx.apartNew bg.own) bg.own (x.keep g) (g.mono fun _ q => q.elim) bg.sub bg.new st (Nat.zero_le _) rfl fun f s' h => hQ f s' h
  exact wpAny_For (key E) hs⟩

/-- a for whose turns go from state to state -/
theorem HF.inv {α σ : Type} {t : Expr} {body : List Stmt} {f : α → PyData} (P : Nat → σ → Prop) (Rh : σ → Rho) (O : σ → Mx6) (step : σ → α → σ) :
    ∀ (items : List α) (i : Nat) (s : σ), P i s → (∀ j s a, items[j]? = some a → P (i + j) s → P (i + j + 1) (step s a) ∧ ∃ ρ' ρ'', TM prog w hb n A env s₀ S₀ R Rs (Rh s) t (f a) ρ' ∧ HT prog w hb n A env s₀ S₀ R Rs ρ' (O s) body (.next ρ'' (O (step s a))) ∧ Cov ρ'' (Rh (step s a))) →
      HF prog w hb n A env s₀ S₀ R Rs (Rh s) (O s) t body (items.map f) (.next (Rh (items.foldl step s)) (O (items.foldl step s)))
  | [], i, s, _, _ => .nil
  | a :: r, i, s, hP, h => by
    obtain ⟨hP', ρ', ρ'', h1, h2, h3⟩ := h 0 s a rfl hP
    exact .next h1 h2 ((HF.inv P Rh O step r (i + 1) (step s a) hP' fun j s b hb' hp => by
      have := h (j + 1) s b (by simpa using hb') (by rw [← Nat.add_assoc, Nat.add_right_comm]; exact hp)
      rwa [show i + (j + 1) + 1 = i + 1 + j + 1 by omega] at this).sub h3)
end
end Mine

namespace Mine
open PySem PySem.Calls PyProof.Rows

section
variable {prog : Program} {w : World} {hb : Heap} {n : Nat} {A : Around} {env cenv : Env} {ρ ρ' ρc : Rho} {ω ω' : Omega} {s₀ sr s s' s'' : Shared} {S₀ Wt Wn : ASet} {D : Addr} {zs : List PyData}

theorem comp_runG {elt t iter : Expr} {ifs : List Expr} {rest : List Comprehension} {scope : Scope} {pos : Pos} {xs : List PyData} {R : Value → Addr → Result → Shared → Prop} {E : Value → Shared → Prop} (x : Cx hb n A env s₀ S₀ Wt ρ ω s) (hi : EI prog w hb n A env ρ ω t iter xs) (k : ScopeOk scope env) (hv : Vis scope env ρ ρc)
    (hc : ∀ C D S I W St s₃, Itr prog w A t S I xs W St → Apart s₀ (compEnvC scope (clOf env.cells scope.names []) C env) (fun b => b = D ∨ Wt b ∨ Mx env ω b) W → (∀ b, W b → s.heap.get? b = none) → (∀ b, W b → ∃ o, s₃.heap.get? b = some o) →
      CLx hb n A (compEnvC scope (clOf env.cells scope.names []) C env) s₀ S₀ (fun b => b = D ∨ Wt b ∨ Mx env ω b) s D ρc [] s₃ → (∀ b, Sx S₀ (fun b => b = D ∨ Wt b ∨ Mx env ω b) (compEnvC scope (clOf env.cells scope.names []) C env) [] b → S b) → (∀ b, s₃.heap.get? b = none → S b) → St 0 s₃ → s.heap.get? D = none → s.heap.get? C = none →
      codeAny (model prog w) A (.compLoop (.ListComp elt (⟨t, iter, ifs, 0⟩ :: rest) scope pos) 0 (.ref I) (.ref D) (compEnvC scope (clOf env.cells scope.names []) C env)) (R (.ref D) C) s₃) :
    wpAny (model prog w) A (eval iter env) (fun xv s₁ => wpAny (model prog w) A (pyIter xv) (fun it s₂ => wpAny (model prog w) A (newList []) (fun acc s₃ => wpAny (model prog w) A (newFunctionEnv scope env.globals (clOf env.cells scope.names []) [] env.qual none .none (some env)) (fun cenv s₄ =>
      codeAny (model prog w) A (.compStart (.ListComp elt (⟨t, iter, ifs, 0⟩ :: rest) scope pos) 0 it acc { cenv with scope := relabel scope env }) (R acc cenv.locals) s₄) E s₃) E s₂) E s₁) E s :=
  hi.run s₀ S₀ Wt s _ E x fun I S W St s₂ g it bg st => by
    refine wpAny_newObj_type (wpAny_newFunctionEnv k.cell (by intro y hy; simp at hy) (fun h₁ hns₁ hsb₁ => ?_) k.kind)
    dsimp only at hns₁ hsb₁ ⊢
    generalize hH2 : s₂.heap.push { cls := .type "list", dict := none, data := .seq ([] : List Value).toArray } = H2 at hns₁ hsb₁ ⊢
    have hC : H2.objs.size = s₂.heap.objs.size + 1 := by rw [← hH2, Heap.size_push]
    have hDC : s₂.heap.objs.size ≠ H2.objs.size := by rw [hC]; exact Nat.ne_of_lt (Nat.lt_succ_self _)
    have no : ∀ b, s₂.heap.objs.size ≤ b → s₂.heap.get? b = none := fun b hb' => by
      cases e : s₂.heap.get? b with
      | none => rfl
      | some o => exact absurd (Heap.lt_size e) (Nat.not_lt.mpr hb')
    have noD := no s₂.heap.objs.size (Nat.le_refl _)
    have noC := no H2.objs.size (by rw [hC]; exact Nat.le_succ _)
    have old : ∀ b o, s₂.heap.get? b = some o → h₁.get? b = some o := fun b o e => hsb₁.extBut b o (fun q => by rw [q, noC] at e; cases e) (Heap.get?_push_of_some _ (hH2 ▸ Heap.get?_push_of_some _ e))
    have hacc : h₁.PlainList s₂.heap.objs.size #[] := ⟨_, hsb₁.extBut _ _ hDC (Heap.get?_push_of_some _ (hH2 ▸ Heap.get?_push_size _ rfl))⟩
    generalize hs₃ : ({ s₂ with heap := h₁, toks := s₂.toks + ([] : List (Str × Value)).length } : Shared) = s₃
    have e₃ : s₃.heap = h₁ := by rw [← hs₃]
    have g₃ : Go0 s₂ s₃ := hs₃ ▸ Go.heap0 old
    have gg := g.tr g₃
    have fr : ∀ b, s₂.heap.get? b = none → s.heap.get? b = none := fun b q => by
      cases e : s.heap.get? b with
      | none => rfl
      | some o => have := g.k0 _ _ e; rw [q] at this; cases this
    generalize hD : s₂.heap.objs.size = D at *
    generalize hCC : H2.objs.size = C at *
    have D₀ : s₀.heap.get? D = none := by
      cases e : s₀.heap.get? D with
      | none => rfl
      | some o => have := x.go.k0 _ _ e; rw [fr D noD] at this; cases this
    have C₀ : s₀.heap.get? C = none := by
      cases e : s₀.heap.get? C with
      | none => rfl
      | some o => have := x.go.k0 _ _ e; rw [fr C noC] at this; cases this
    have x₃ := x.keep gg
    have hDe : ∃ o, s₃.heap.get? D = some o := by obtain ⟨m, e⟩ := hacc; exact ⟨_, e₃ ▸ e⟩
    have hCn : ∀ c, (∃ n, (n, c) ∈ env.cells) → c ≠ C ∧ c ≠ D := fun c ⟨nm, hm⟩ => by
      obtain ⟨⟨v, o, e, _⟩, _⟩ := x.cell nm c hm
      exact ⟨fun q => (by rw [q, fr C noC] at e; cases e), fun q => (by rw [q, fr D noD] at e; cases e)⟩
    have memcl : ∀ y c, (y, c) ∈ clOf env.cells scope.names [] → (y, c) ∈ env.cells := fun y c hm => by
      rcases clOf_mem hm with h | ⟨h, e⟩
      · cases h
      · obtain ⟨c', hc'⟩ := Option.isSome_iff_exists.mp (k.free _ h)
        rw [hc'] at e
        exact e ▸ mem_of_lookup hc'
    -- the context inside
    have sx : ∀ b, Sx S₀ (fun b => b = D ∨ Wt b ∨ Mx env ω b) (compEnvC scope (clOf env.cells scope.names []) C env) [] b → Sx S₀ Wt env ω b ∨ s₂.heap.get? b = none := fun b q => by
      rcases q with q | (q | q | q) | q | q | ⟨p, hp, _⟩
      · exact .inl (.inl q)
      · exact .inr (q ▸ noD)
      · exact .inl (.inr (.inl q))
      · exact .inl (Mx.sx b q)
      · exact .inr (by rw [show b = C from q]; exact noC)
      · obtain ⟨nm, hm⟩ := q
        exact .inl (.inr (.inr (.inr (.inl ⟨nm, memcl nm b hm⟩))))
      · cases hp
    have xin : Cx hb n A (compEnvC scope (clOf env.cells scope.names []) C env) s₀ S₀ (fun b => b = D ∨ Wt b ∨ Mx env ω b) ρc [] s₃ := by
      refine ⟨x.base, x₃.go, x.room, ?_, x.glob, x.blt, x.s0, fun b q => ?_, ⟨_, e₃ ▸ hns₁⟩, C₀, fun y c hm => ?_, clOf_apart k.nodup x.apart k.free, fun y d e => ?_, (fun p hp => nomatch hp), List.nodup_nil⟩
      · exact k.kind
      · rcases q with q | q | q | ⟨nm, q⟩ | ⟨p, hp, q⟩
        · exact ⟨q ▸ hDe, q ▸ D₀⟩
        · exact x₃.wt b q
        · exact ⟨x₃.bd (.inr (.inr (.inl q))), q ▸ x.lnew⟩
        · exact ⟨x₃.bd (.inr (.inr (.inr (.inl ⟨nm, q⟩)))), (x.cell nm b q).2.1⟩
        · exact ⟨x₃.bd (.inr (.inr (.inr (.inr ⟨p, hp, q⟩)))), q ▸ (x.own p hp).2.1⟩
      · have hm' := memcl y c hm
        exact ⟨(x₃.cell y c hm').1, (x.cell y c hm').2.1, (hCn c ⟨y, hm'⟩).1⟩
      · obtain ⟨h1, h2, h3⟩ := hv.at e
        obtain ⟨v, at_, r⟩ := x.loc y d h1
        rcases at_ with ⟨hk, _⟩ | ⟨hk, c, hl, hcv⟩
        · rw [hk] at h3; rcases h3 with h3 | h3 <;> cases h3
        · refine ⟨v, .inr ⟨relabel_free h2, c, clOf_lookup (mem_of_lookup h2) hl, hcv.keeps gg.k0⟩, ?_⟩
          exact r.shut (gg.mono fun _ q => q.elim) fun b q => (sx b q).imp id (fr b)
    have xl : CLx hb n A (compEnvC scope (clOf env.cells scope.names []) C env) s₀ S₀ (fun b => b = D ∨ Wt b ∨ Mx env ω b) s D ρc [] s₃ :=
      ⟨xin, ⟨[], by rw [e₃]; exact hacc, .nil⟩, gg.mono fun _ q => q.elim, .inl rfl, hDC, fun y hm => (hCn D ⟨y, memcl y D hm⟩).2 rfl⟩
    have ap : Apart s₀ (compEnvC scope (clOf env.cells scope.names []) C env) (fun b => b = D ∨ Wt b ∨ Mx env ω b) W := by
      have ap₀ := x.apartNew bg.own
      have wD : ∀ b, W b → b ≠ D ∧ b ≠ C := fun b q => by
        obtain ⟨o, e⟩ := bg.ex b q
        exact ⟨fun z => (by rw [z, noD] at e; cases e), fun z => (by rw [z, noC] at e; cases e)⟩
      refine ⟨fun b q q' => ?_, ap₀.new, fun b q => (wD b q).2, fun b q y hm => ap₀.cell b q y (memcl y b hm)⟩
      rcases q' with q' | q' | q' | ⟨nm, q'⟩ | ⟨p, hp, q'⟩
      · exact (wD b q).1 q'
      · exact ap₀.wt b q q'
      · exact ap₀.loc b q q'
      · exact ap₀.cell b q nm q'
      · have := bg.own b q
        obtain ⟨o, ho, _⟩ := (x.own p hp).2.2.2.2.2.cont
        rw [q', this] at ho; cases ho
    have subS : ∀ b, Sx S₀ (fun b => b = D ∨ Wt b ∨ Mx env ω b) (compEnvC scope (clOf env.cells scope.names []) C env) [] b → S b := fun b q => (sx b q).elim (bg.sub b) (bg.new b)
    have newS : ∀ b, s₃.heap.get? b = none → S b := fun b q => by
      refine bg.new b ?_
      cases e : s₂.heap.get? b with
      | none => rfl
      | some o => have := g₃.k0 _ _ e; rw [q] at this; cases this
    have loop := hc C D S I W St s₃ it ap bg.own (fun b q => let ⟨o, e⟩ := bg.ex b q; ⟨o, g₃.k0 _ _ e⟩) xl subS newS (it.frame _ _ _ st (g₃.mono fun _ q => q.elim)) (fr D noD) (fr C noC)
    exact codeAny_compStart_list loop (it.self 0 s₃ _ _ (it.frame _ _ _ st (g₃.mono fun _ q => q.elim)) loop)

end
end Mine

namespace Mine
open PySem PySem.Calls PyProof.Rows

section
variable {prog : Program} {w : World} {hb : Heap} {n : Nat} {A : Around} {env cenv : Env} {ρ ρ' ρc : Rho} {ω ω' : Omega} {s₀ sr s s' s'' : Shared} {S₀ Wt Wn : ASet} {D : Addr}

noncomputable def zeros : List Int := [0, 0, 0, 0, 0, 0]
theorem mul_zeros {l : Addr} {t u : Tok} {k : Nat} {Q E : Value → Shared → Prop} (hl : s.heap.get? l = some { cls := .type "list", data := .seq #[.int 0 t] k })
    (h : Q (.ref s.heap.objs.size) { s with heap := s.heap.push { cls := .type "list", data := .seq #[.int 0 t, .int 0 t, .int 0 t, .int 0 t, .int 0 t, .int 0 t] } }) : wpAny (model prog w) A (binaryOp .Mult (.ref l) (.int 6 u)) Q E s :=
  wpAny_binaryOp_repeat_ref (T := "list") (U := "int") (by decide) ⟨_, hl, rfl⟩ (fun s' => typeIs_int s' 6 u) noFill_list_mul F.fills_int_mul F.slot_int_rmul repeat_list F.slot_int_index.lookup
    (call_meets F.slot_int_rmul (typeIs_int s 6 u) F.entry_int_rmul (F.args_int_rmul_2 _ _) (int___rmul___int_list 6 u l #[.int 0 t] k)
      ⟨hl, rfl, ⟨_, hl, rfl⟩, call_meets F.slot_list_mul ⟨_, hl, rfl⟩ F.entry_list_mul (F.args_list_mul_2 _ _)
        (AutoListH.list___mul___list_int_3 l #[.int 0 t] k 6 u (by simp [Builtin.List.listFitsIndex]) (by show ¬ (1 * 6 > _); decide) (by simp [Builtin.List.listTooLong, sizeLine]))
        ⟨hl, h⟩⟩)

theorem zeros_ok (t : Tok) : IntsAre' [.int 0 t, .int 0 t, .int 0 t, .int 0 t, .int 0 t, .int 0 t] zeros := by
  refine ⟨rfl, fun i v k hv hk => ?_⟩
  match i, hv, hk with
  | 0, hv, hk | 1, hv, hk | 2, hv, hk | 3, hv, hk | 4, hv, hk | 5, hv, hk => cases hv; cases hk; exact ⟨_, rfl⟩
  | i + 6, hv, hk => simp at hv

structure EZ (prog : Program) (w : World) (hb : Heap) (n : Nat) (A : Around) (env : Env) (e : Expr) : Prop where
  run : ∀ (s₀ : Shared) (S₀ Wt : ASet) (ρ : Rho) (ω : Omega) (s : Shared) (Q E : Value → Shared → Prop), Cx hb n A env s₀ S₀ Wt ρ ω s →
    (∀ r s' (vs : List Value), Go0 s s' → s.heap.get? r = none → s'.heap.PlainList r vs.toArray → IntsAre' vs zeros → Q (.ref r) s') → wpAny (model prog w) A (eval e env) Q E s
theorem EZ.it {j1 j3 : Nat} {p1 p2 p3 p4 : Pos} : EZ prog w hb n A env (.BinOp (.List [.Constant (.int 0) j1 p1] p2) .Mult (.Constant (.int 6) j3 p3) p4) := ⟨fun s₀ S₀ Wt ρ ω s Q E x h => by
  refine wpAny_BinOp (wpAny_List ((EVs.cons (EV.int (prog := prog) (w := w) (hb := hb) (n := n) (ρ := ρ) (ω := ω)) .nil).run s₀ S₀ Wt s p2 _ E x fun vs s₁ g₁ r₁ => ⟨by rw [r₁.1]; decide, ?_⟩))
  match vs, r₁ with
  | [], r₁ => exact absurd r₁.1 (by simp)
  | [u], r₁ =>
    obtain ⟨t, rfl⟩ := r₁.head.intOf
    have g₂ : Go0 s₁ { s₁ with heap := s₁.heap.push { cls := .type "list", data := .seq #[.int 0 t] } } := Go.push
    refine (EV.int (prog := prog) (w := w) (hb := hb) (n := n) (ρ := ρ) (ω := ω) (i := 6)).run s₀ S₀ Wt _ _ E ((x.keep g₁).keep g₂) fun v s₃ g₃ r₃ => ?_
    obtain ⟨t', rfl⟩ := r₃.intOf
    refine mul_zeros (g₃.k0 _ _ (Heap.get?_push_size _ rfl)) ?_
    have g₄ := (g₁.tr g₂).tr g₃
    refine h _ _ _ (g₄.tr Go.push) ?_ ⟨0, Heap.get?_push_size _ rfl⟩ (zeros_ok t)
    cases e : s.heap.get? s₃.heap.objs.size with
    | none => rfl
    | some o => have := g₄.k0 _ _ e; rw [fresh_size] at this; cases this
  | _ :: _ :: _, r₁ => exact absurd r₁.1 (by simp)⟩

/-- the rows under way -/
structure CRx (hb : Heap) (n : Nat) (A : Around) (cenv : Env) (s₀ : Shared) (S₀ Wt : ASet) (sr : Shared) (D : Addr) (Rs : List Addr) (s : Shared) : Prop where
  cx : Cx hb n A cenv s₀ S₀ (fun b => Wt b ∨ b ∈ Rs) [] [] s
  top : s.heap.PlainList D (Rs.map Value.ref).toArray
  row : ∀ r ∈ Rs, ∃ vs : List Value, s.heap.PlainList r vs.toArray ∧ IntsAre' vs zeros
  new : ∀ r ∈ Rs, sr.heap.get? r = none
  nd : Rs.Nodup
  go : Go (fun b => b = D ∨ b = cenv.locals) sr s
  wtD : Wt D
  dc : D ≠ cenv.locals
  dcell : ∀ y, (y, D) ∉ cenv.cells
  nr : ∀ r ∈ Rs, ¬ Wt r ∧ r ≠ cenv.locals ∧ ∀ y, (y, r) ∉ cenv.cells

theorem CRx.bump {Rs : List Addr} (x : CRx hb n A cenv s₀ S₀ Wt sr D Rs s) {T : ASet} (y : Cx hb n A cenv s₀ S₀ (fun b => Wt b ∨ b ∈ Rs) ρ [] s') (g : Gw T s s') (hT : ∀ b, T b → b ≠ D ∧ b ∉ Rs ∧ (b = cenv.locals ∨ sr.heap.get? b = none)) : CRx hb n A cenv s₀ S₀ Wt sr D Rs s' :=
  ⟨y.sub (fun _ _ e => nomatch e), x.top.at fun o e => g.kp _ _ (fun q => (hT _ q).1 rfl) e, fun r hr => let ⟨vs, p, q⟩ := x.row r hr; ⟨vs, p.at fun o e => g.kp _ _ (fun q => (hT _ q).2.1 hr) e, q⟩, x.new, x.nd,
    ⟨fun b o hb' e => g.kp b o (fun q => (hT b q).2.2.elim (fun z => hb' (.inr z)) fun z => by rw [e] at z; cases z) (x.go.kp b o hb' e),
     fun b o e => by
      obtain ⟨o', e'⟩ := x.go.ex b o e
      by_cases hL : b = cenv.locals
      · obtain ⟨m, o'', _, _, e'', _⟩ := y.ns; exact ⟨o'', hL ▸ e''⟩
      · exact ⟨o', g.kp b o' (fun q => (hT b q).2.2.elim hL fun z => by rw [e] at z; cases z) e'⟩,
     fun i gs e => g.gens i gs (x.go.gens i gs e), fun q => g.bare (x.go.bare q), g.drawn.trans x.go.drawn, g.os.trans x.go.os⟩, x.wtD, x.dc, x.dcell, x.nr⟩

theorem Gw.ofGo {T : ASet} (g : Go T s s') : Gw T s s' := g.gw

theorem CR.loop {elt : Expr} {scope : Scope} {pos ip : Pos} {t : Expr} {y : Str} {yp : Pos} {gens : List Comprehension} (ht : t = .Name y yp) (hy : cenv.kindOf y = some .local) (he : EZ prog w hb n A cenv elt)
    (hT : ∀ it acc, compTurn (.ListComp elt gens scope pos) 0 it acc cenv = turn1 ip t [] cenv it (fun k => do (do let _ ← call (.builtin "list.append") [acc, ← eval elt cenv]); k) (.compLoop (.ListComp elt gens scope pos) 0 it acc cenv)) :
    ∀ (xs : List PyData) (s₀ : Shared) (S₀ Wt : ASet) (sr s : Shared) (S : ASet) (I D : Addr) (all : List PyData) (W : ASet) (St : Nat → Shared → Prop) (k : Nat) (Rs : List Addr) (R : Result → Shared → Prop),
      Itr prog w A t S I all W St → Apart s₀ cenv Wt W → (∀ b, W b → sr.heap.get? b = none) → (∀ b, W b → ∃ o, s.heap.get? b = some o) → (∀ r ∈ Rs, ¬ W r) → CRx hb n A cenv s₀ S₀ Wt sr D Rs s → (∀ b, Sx S₀ Wt cenv [] b → S b) → (∀ r ∈ Rs, S r) → (∀ b, s.heap.get? b = none → S b) → St k s → k ≤ all.length → all.drop k = xs → Rs.length + xs.length ≤ 1000000 →
      (∀ s' Rs', Rs'.length = Rs.length + xs.length → CRx hb n A cenv s₀ S₀ Wt sr D Rs' s' → R (.ok .next) s') → codeAny (model prog w) A (.compLoop (.ListComp elt gens scope pos) 0 (.ref I) (.ref D) cenv) R s
  | [], s₀, S₀, Wt, sr, s, S, I, D, all, W, St, k, Rs, R, it, ap, hr, hw, hRW, x, hS, hSR, hn, st, hk, hd, hz, hR => by
    have hk' : k = all.length := by
      have := congrArg List.length hd
      simp at this; omega
    subst hk'
    have ap' : Apart s₀ cenv (fun b => Wt b ∨ b ∈ Rs) W := ⟨fun b q => fun z => z.elim (ap.wt b q) fun z => hRW b z q, ap.new, ap.loc, ap.cell⟩
    refine comp_step (emit := fun k => do (do let _ ← call (.builtin "list.append") [.ref D, ← eval elt cenv]); k) (hT _ _) (wpAny_mono (it.done s _ _ st fun s' g => hR s' Rs (by simp) (x.bump (x.cx.turn g ap' (fun b o hb' e => it.nc _ _ b o st hb' e)) g fun b q => ⟨fun z => ap.wt b q (z ▸ x.wtD), fun z => hRW b z q, .inr (hr b q)⟩)) (fun r s₁ h₁ => ?_) fun _ _ e => e)
    cases r with
    | none => exact h₁
    | some v => exact h₁.elim
  | dd :: xs, s₀, S₀, Wt, sr, s, S, I, D, all, W, St, k, Rs, R, it, ap, hr, hw, hRW, x, hS, hSR, hn, st, hk, hd, hz, hR => by
    obtain ⟨hd1, hd2, hk2⟩ := drop_cons hd
    have ap' : Apart s₀ cenv (fun b => Wt b ∨ b ∈ Rs) W := ⟨fun b q => fun z => z.elim (ap.wt b q) fun z => hRW b z q, ap.new, ap.loc, ap.cell⟩
    refine comp_item (emit := fun acc k => do (do let _ ← call (.builtin "list.append") [acc, ← eval elt cenv]); k) hT it st hd1 fun v s₁ g₁ st₁ r₁ => ?_
    have x₁ := x.bump (x.cx.turn g₁.gw ap' (fun b o hb' e => it.nc _ _ b o st hb' e)) g₁.gw fun b q => ⟨fun z => ap.wt b q (z ▸ x.wtD), fun z => hRW b z q, .inr (hr b q)⟩
    have hSx : ∀ b, Sx S₀ (fun b => Wt b ∨ b ∈ Rs) cenv [] b → S b := fun b q => by
      rcases q with q | (q | q) | q
      · exact hS b (.inl q)
      · exact hS b (.inr (.inl q))
      · exact hSR b q
      · exact hS b (.inr (.inr q))
    subst ht
    refine (AC.name (prog := prog) (w := w) (hb := hb) (n := n) (ρ := []) hy).run s₀ S₀ _ s₁ v _ _ x₁.cx (r₁ _ hSx fun b q => x.cx.bd q) fun s₂ o₂ l₂ => ?_
    refine TS.nil.run s₀ S₀ _ s₂ _ _ o₂.cx fun s₃ g₃ => ?_
    rw [if_pos rfl]
    have x₂ := x₁.bump o₂.cx l₂.gw fun b q => ⟨fun z => x.dc (z.symm.trans q), fun z => (x.nr b z).2.1 q, .inl q⟩
    have x₃ := x₂.bump (x₂.cx.keep g₃) (g₃.gw) fun b q => q.elim
    have hn₁ : ∀ b, s₁.heap.get? b = none → S b := fun b q => hn b (by
      cases e : s.heap.get? b with
      | none => rfl
      | some o => obtain ⟨o', e'⟩ := g₁.ex b o e; rw [q] at e'; cases e')
    have hL : S cenv.locals := hS _ (.inr (.inr (.inl rfl)))
    have hD : S D := hS _ (.inr (.inl x.wtD))
    obtain ⟨st₃, hn₃⟩ := turn_on it hn₁ st₁ (l₂.tr (g₃.mono fun _ q => q.elim)) fun b q => q ▸ hL
    have hw₃ : ∀ b, W b → ∃ o, s₃.heap.get? b = some o := fun b q => by
      obtain ⟨o, e⟩ := hw b q
      obtain ⟨o, e⟩ := g₁.ex b o e
      obtain ⟨o, e⟩ := l₂.ex b o e
      exact ⟨o, g₃.k0 _ _ e⟩
    refine wpAny_bind (wpAny_bind (he.run s₀ S₀ _ _ _ s₃ _ _ x₃.cx fun r s₄ vs g₄ hnew hp hi => ?_))
    have x₄ := x₃.bump (x₃.cx.keep g₄) g₄.gw fun b q => q.elim
    have hb3 : ∀ b o, s₃.heap.get? b = some o → b ≠ r := fun b o e q => by rw [q, hnew] at e; cases e
    have hrl : r ≠ cenv.locals := fun q => by obtain ⟨m, o, _, _, e, _⟩ := x₃.cx.ns; rw [← q, hnew] at e; cases e
    have hrc : ∀ y, (y, r) ∉ cenv.cells := fun y hm => by obtain ⟨⟨v, o, e, _⟩, _⟩ := x₃.cx.cell y r hm; rw [hnew] at e; cases e
    have hrw : ¬ Wt r := fun q => by obtain ⟨o, e⟩ := (x₃.cx.wt r (.inl q)).1; rw [hnew] at e; cases e
    have hrR : r ∉ Rs := fun q => by obtain ⟨o, e⟩ := (x₃.cx.wt r (.inr q)).1; rw [hnew] at e; cases e
    have hrD : r ≠ D := fun q => hrw (q ▸ x.wtD)
    have hrW : ¬ W r := fun q => by obtain ⟨o, e⟩ := hw₃ r q; rw [hnew] at e; cases e
    have hrs : sr.heap.get? r = none := by
      cases e : sr.heap.get? r with
      | none => rfl
      | some o =>
        obtain ⟨o', e'⟩ := x₃.go.ex r o e
        rw [hnew] at e'; cases e'
    have cx₄ : Cx hb n A cenv s₀ S₀ (fun b => Wt b ∨ b ∈ Rs ++ [r]) [] [] s₄ := by
      have := x₃.cx.grow (Wn := fun b => b = r) g₄ fun b q => ⟨q ▸ hnew, let ⟨m, e⟩ := hp; ⟨_, q ▸ e⟩⟩
      refine this.wtDown fun b q => ?_
      rcases q with q | q
      · exact .inl (.inl q)
      · rcases List.mem_append.mp q with q | q
        · exact .inl (.inr q)
        · exact .inr (List.mem_singleton.mp q)
    refine wpAny_bind ?_
    refine wpAny_list_append_plain x₄.top (fun h' hp' hs' => wpAny_pure (wpAny_pure ⟨rfl, ?_⟩)) (by simp at hz ⊢; exact Nat.le_trans (show Rs.length ≤ 1000000 by omega) (by decide))
    obtain ⟨m', e'⟩ := hp'
    have g₅ : Go (fun b => b = D) s₄ { s₄ with heap := h', toks := s₄.toks } := Go.same rfl hs' e'
    have gS : Go (Sx S₀ (fun b => Wt b ∨ b ∈ Rs ++ [r]) cenv []) s₄ { s₄ with heap := h', toks := s₄.toks } := g₅.mono fun b q => .inr (.inl (.inl (q ▸ x.wtD)))
    have kp : ∀ b o, b ≠ D → s₄.heap.get? b = some o → h'.get? b = some o := fun b o hb' e => (hs'.2 b hb').trans e
    have Dn : s₀.heap.get? D = none := (x₄.cx.wt D (.inl x.wtD)).2
    have nD : ∀ b o, s₀.heap.get? b = some o → b ≠ D := fun b o e q => by rw [q, Dn] at e; cases e
    have x₅ : CRx hb n A cenv s₀ S₀ Wt sr D (Rs ++ [r]) { s₄ with heap := h', toks := s₄.toks } :=
      ⟨⟨cx₄.base, ⟨fun b o _ e => kp b o (nD b o e) (cx₄.go.k0 b o e), fun b o e => ⟨o, kp b o (nD b o e) (cx₄.go.k0 b o e)⟩, cx₄.go.gens, cx₄.go.bare, cx₄.go.drawn, cx₄.go.os⟩, cx₄.room, cx₄.kind, cx₄.glob, cx₄.blt, cx₄.s0,
        fun b q => ⟨let ⟨o, e⟩ := (cx₄.wt b q).1; gS.ex b o e, (cx₄.wt b q).2⟩, let ⟨m, hn⟩ := cx₄.ns; ⟨m, hn.sameBut hs' (Ne.symm x.dc)⟩, cx₄.lnew,
        fun y c hc => ⟨let ⟨u, hu⟩ := (cx₄.cell y c hc).1; ⟨u, hu.sameBut hs' fun q => x.dcell y (q ▸ hc)⟩, (cx₄.cell y c hc).2⟩, cx₄.apart, (fun y dd e => nomatch e), (fun p hp => nomatch hp), List.nodup_nil⟩,
       ⟨m', by simpa using e'⟩, fun q hq => by
        rcases List.mem_append.mp hq with hq | hq
        · obtain ⟨vs, p, i⟩ := x₄.row q hq
          exact ⟨vs, p.at fun o e => kp _ _ (fun z => (x.nr q hq).1 (z ▸ x.wtD)) e, i⟩
        · cases List.mem_singleton.mp hq
          exact ⟨vs, hp.at fun o e => kp _ _ hrD e, hi⟩,
       fun q hq => (List.mem_append.mp hq).elim (x.new q) fun z => List.mem_singleton.mp z ▸ hrs,
       List.nodup_append.mpr ⟨x.nd, by simp, fun a ha b hb' => by rw [List.mem_singleton.mp hb']; rintro rfl; exact hrR ha⟩,
       x₄.go.tr (g₅.mono fun b q => .inl q), x.wtD, x.dc, x.dcell, fun q hq => (List.mem_append.mp hq).elim (x.nr q) fun z => by rw [List.mem_singleton.mp z]; exact ⟨hrw, hrl, hrc⟩⟩
    obtain ⟨st₅, hn₅⟩ := turn_on (T := fun b => b = D) it hn₃ st₃ ((g₄.mono fun _ q => q.elim).tr g₅) fun b q => q ▸ hD
    refine CR.loop rfl hy he hT xs s₀ S₀ Wt sr _ S I D all W St (k + 1) (Rs ++ [r]) R it ap hr (fun b q => let ⟨o, e⟩ := hw₃ b q; g₅.ex b o (g₄.k0 b o e)) (fun q hq => (List.mem_append.mp hq).elim (hRW q) fun z => List.mem_singleton.mp z ▸ hrW) x₅ hS (fun q hq => (List.mem_append.mp hq).elim (hSR q) fun z => List.mem_singleton.mp z ▸ hn₃ r hnew) hn₅ st₅ hk2 hd2 (by simp at hz ⊢; omega) fun s' Rs' hl x' => hR s' Rs' (by simp at hl ⊢; omega) x'
end
end Mine

namespace Mine
open PySem PySem.Calls PyProof.Rows

section
variable {prog : Program} {w : World} {hb : Heap} {n : Nat} {A : Around} {env cenv : Env} {ρ ρ' ρc : Rho} {ω ω' : Omega} {s₀ sr s s' s'' : Shared} {S₀ Wt Wn : ASet} {D : Addr}

noncomputable def M0 : Mx6 := [zeros, zeros, zeros, zeros, zeros, zeros]
theorem mat_zero {h : Heap} {R : Addr} {Rs : List Addr} (ht : h.PlainList R (Rs.map Value.ref).toArray) (hl : Rs.length = 6) (hr : ∀ r ∈ Rs, ∃ vs : List Value, h.PlainList r vs.toArray ∧ IntsAre' vs zeros) : MatAt h R Rs M0 :=
  ⟨ht, hl, fun i r ns h1 h2 => by
    have : ns = zeros := by
      have := List.mem_of_getElem? h2
      simpa [M0] using this
    subst this
    exact hr r (List.mem_of_getElem? h1)⟩

/-- rows = [[0] * 6 for k in …] -/
theorem EX.rows {py spos : Pos} {elt iter : Expr} {scope : Scope} {pos : Pos} {ky : Str} {kp : Pos} {xs : List PyData} {d : PyData} {rest : List Stmt} {c : Addr} (hi : EI prog w hb n A env ρ [] (.Name ky kp) iter xs) (hx : xs.length = 6) (k : ScopeOk scope env)
    (he : ∀ C, EZ prog w hb n A (compEnvC scope (clOf env.cells scope.names []) C env) elt) (hky : ∀ C, (compEnvC scope (clOf env.cells scope.names []) C env).kindOf ky = some .local)
    (hk : env.kindOf "rows" = some .cell) (hcl : env.cells.lookup ("rows" : Str) = some c) (hρ : ρ.lookup ("rows" : Str) = none)
    (h : ∀ s₀ S₀ R Rs, HT prog w hb n A env s₀ S₀ R Rs ρ M0 rest (.ret d)) (hs : swapsWith (.ListComp elt [⟨.Name ky kp, iter, [], 0⟩] scope pos) (some (.Name "rows" py)) spos.line env = pure false := by rfl) (hf : ∀ x, foldedSetIterable iter env x = pure x := by intro _; rfl) :
    EX prog w hb n A env ρ [] (.Assign [.Name "rows" py] (.ListComp elt [⟨.Name ky kp, iter, [], 0⟩] scope pos) spos :: rest) (.ret d) := .mk fun s₀ S₀ Wt s Q E x₀ hQ => by
  have x := x₀.wtDown (Wt := fun _ => False) fun _ q => q.elim
  refine wpAny_execs_cons (wpAny_Assign_Name ?_ hs)
  rw [eval_ListComp]
  refine wpAny_comprehension_free (use := none) rfl hf (closureFor_is k.free) k.kind k.names (comp_runG (ρc := []) x hi k .nil fun C D S I W St s₃ it ap own ex xl sub new st hD hC => ?_)
  refine CR.loop rfl (hky C) (he C) (fun it acc => turn_one _ _ _ _ _ _ it acc _) xs s₀ S₀ _ s s₃ S I D xs W St 0 [] _ it ap own ex (by intro r hr; cases hr) ⟨xl.cx.wtDown (fun b q => q.elim id fun q => (nomatch q)), ?_, (by intro r hr; cases hr), (by intro r hr; cases hr), List.nodup_nil, xl.go, xl.wtD, xl.dc, xl.dcell, by intro r hr; cases hr⟩ sub (by intro r hr; cases hr) new st (Nat.zero_le _) rfl (by simp [hx]) fun s' Rs hl x' => ?_
  · obtain ⟨vs, hp, hr⟩ := xl.acc
    match vs, hr.1 with
    | [], _ => exact hp
  · refine ⟨x'.cx.ns.choose, x'.cx.ns.choose_spec, fun h' hs' => ?_⟩
    have hl6 : Rs.length = 6 := by simpa [hx] using hl
    have gC : Gw (fun b => b = C) s' { s' with heap := h' } := Gw.heap (tk := s'.toks) fun b o hb' e' => (hs'.2 b hb').trans e'
    have nC : ∀ b o, s.heap.get? b = some o → b ≠ C := fun b o e' q => by rw [q, hC] at e'; cases e'
    have nD : ∀ b o, s.heap.get? b = some o → b ≠ D := fun b o e' q => by rw [q, hD] at e'; cases e'
    have go : Go0 s { s' with heap := h' } := ⟨fun b o _ e' => gC.kp b o (nC b o e') (x'.go.kp b o (fun q => q.elim (nD b o e') (nC b o e')) e'), fun b o e' => ⟨o, gC.kp b o (nC b o e') (x'.go.kp b o (fun q => q.elim (nD b o e') (nC b o e')) e')⟩, x'.go.gens, x'.go.bare, x'.go.drawn, x'.go.os⟩
    have top : h'.PlainList D (Rs.map Value.ref).toArray := x'.top.at fun o e => gC.kp _ _ x'.dc e
    have row : ∀ r ∈ Rs, ∃ vs : List Value, h'.PlainList r vs.toArray ∧ IntsAre' vs zeros := fun r hr => let ⟨vs, p, q⟩ := x'.row r hr; ⟨vs, p.at fun o e => gC.kp _ _ (x'.nr r hr).2.1 e, q⟩
    have fresh : ∀ b, (b = D ∨ b ∈ Rs) → s.heap.get? b = none ∧ ∃ o, h'.get? b = some o := fun b q => by
      rcases q with rfl | q
      · exact ⟨hD, let ⟨m, e⟩ := top; ⟨_, e⟩⟩
      · exact ⟨x'.new b q, let ⟨vs, ⟨m, e⟩, _⟩ := row b q; ⟨_, e⟩⟩
    have xg := (x.grow (Wn := fun b => b = D ∨ b ∈ Rs) go fresh).wtDown (Wt := fun b => b = D ∨ b ∈ Rs) fun b q => .inr q
    have hc := mem_of_lookup hcl
    obtain ⟨v₀, hv₀⟩ := (xg.cell "rows" c hc).1
    refine wpAny_storeName_cell xg.kind hk hcl hv₀ fun h₂ hn₂ hs₂ => ?_
    have z := xg.storeC (ρ' := ρ) (v := .ref D) (tk := s'.toks) hk hcl hn₂ hs₂ (fun p hp => nomatch hp) fun y dd e => .inr ⟨fun q => (by rw [q, hρ] at e; cases e), e⟩
    have apart : ∀ b, (b = D ∨ b ∈ Rs) → b ≠ env.locals ∧ ∀ y, (y, b) ∉ env.cells := fun b q => ⟨fun z => (by
      obtain ⟨o, e⟩ := x.bd (b := env.locals) (.inr (.inr (.inl rfl)))
      rw [← z, (fresh b q).1] at e; cases e), fun y hy => by
      obtain ⟨o, e⟩ := x.bd (b := b) (.inr (.inr (.inr (.inl ⟨y, hy⟩))))
      rw [(fresh b q).1] at e; cases e⟩
    have m₂ : MatAt h₂ D Rs M0 := (mat_zero top hl6 row).keep fun b o hb' e => (hs₂.2 b fun q => (apart b hb').2 "rows" (q ▸ hc)).trans e
    have mt : Mt hb n A env s₀ S₀ D Rs ρ M0 { s' with heap := h₂ } := ⟨z.2, .inr ⟨.inl hk, c, hcl, hn₂⟩, ⟨Rs, .refl _, m₂⟩, apart, fun q => (x'.nr D q).1 x'.wtD, x'.nd⟩
    exact (h s₀ S₀ D Rs).run _ Q E mt fun f s₄ h₄ => hQ f s₄ h₄
end
end Mine

namespace Mine
open PySem PySem.Calls PyProof.Rows

noncomputable def mrow (M : Mx6) (i : Nat) : List Int := M.getD i []
noncomputable def mget (M : Mx6) (i j : Nat) : Int := (mrow M i).getD j 0
noncomputable def mset (M : Mx6) (i j : Nat) (v : Int) : Mx6 := M.set i ((mrow M i).set j v)
noncomputable def mswap (M : Mx6) (i j : Nat) : Mx6 := (M.set i (mrow M j)).set j (mrow M i)
noncomputable def Sh (M : Mx6) : Prop := M.length = 6 ∧ ∀ r ∈ M, r.length = 6
theorem Sh.row {M : Mx6} (h : Sh M) {i : Nat} (hi : i < 6) : M[i]? = some (mrow M i) ∧ (mrow M i).length = 6 := by
  have hi' : i < M.length := by rw [h.1]; exact hi
  have e : mrow M i = M[i] := by simp [mrow, List.getD, List.getElem?_eq_getElem hi']
  rw [e]
  exact ⟨List.getElem?_eq_getElem hi', h.2 _ (List.getElem_mem hi')⟩
theorem Sh.get {M : Mx6} (h : Sh M) {i j : Nat} (hi : i < 6) (hj : j < 6) : (mrow M i)[j]? = some (mget M i j) := by
  have hj' : j < (mrow M i).length := by rw [(h.row hi).2]; exact hj
  simp [mget, List.getD, List.getElem?_eq_getElem hj']
theorem Sh.set {M : Mx6} (h : Sh M) {i j : Nat} {v : Int} (hi : i < 6) : Sh (mset M i j v) := ⟨by simp [mset, h.1], fun r hr => by
  rcases List.mem_or_eq_of_mem_set hr with hr | rfl
  · exact h.2 r hr
  · rw [List.length_set]; exact (h.row hi).2⟩
theorem Sh.swap {M : Mx6} (h : Sh M) {i j : Nat} (hi : i < 6) (hj : j < 6) : Sh (mswap M i j) := ⟨by simp [mswap, h.1], fun r hr => by
  rcases List.mem_or_eq_of_mem_set hr with hr | rfl
  · rcases List.mem_or_eq_of_mem_set hr with hr | rfl
    · exact h.2 r hr
    · exact (h.row hj).2
  · exact (h.row hi).2⟩

section
variable {prog : Program} {w : World} {hb : Heap} {n : Nat} {A : Around} {env cenv : Env} {ρ ρ' ρc : Rho} {ω ω' : Omega} {s₀ sr s s' s'' : Shared} {S₀ Wt Wn : ASet} {R : Addr} {Rs rs : List Addr} {M : Mx6}

theorem Cx.poke {r : Addr} (x : Cx hb n A env s₀ S₀ Wt ρ [] s) (hr : Wt r) (hl : r ≠ env.locals) (hc : ∀ y, (y, r) ∉ env.cells) (g : Go (fun b => b = r) s s') : Cx hb n A env s₀ S₀ Wt ρ [] s' := by
  have nR : ∀ b o, s₀.heap.get? b = some o → b ≠ r := fun b o e q => by rw [q, (x.wt r hr).2] at e; cases e
  have gS : Go (Sx S₀ Wt env []) s s' := g.mono fun b q => .inr (.inl (q ▸ hr))
  refine { x with
    go := ⟨fun b o _ e => g.kp b o (nR b o e) (x.go.k0 b o e), fun b o e => ⟨o, g.kp b o (nR b o e) (x.go.k0 b o e)⟩, fun i gs e => g.gens i gs (x.go.gens i gs e), fun q => g.bare (x.go.bare q), g.drawn.trans x.go.drawn, g.os.trans x.go.os⟩
    wt := fun b q => ⟨let ⟨o, e⟩ := (x.wt b q).1; g.ex b o e, (x.wt b q).2⟩
    ns := let ⟨m, h⟩ := x.ns; ⟨m, h.at' fun o e => g.kp _ o (Ne.symm hl) e⟩
    cell := fun z c h => ⟨let ⟨v, o, e, dd⟩ := (x.cell z c h).1; ⟨v, o, g.kp c o (fun q => hc z (q ▸ h)) e, dd⟩, (x.cell z c h).2⟩
    loc := fun z dd e => ?_
    own := fun p hp => nomatch hp }
  obtain ⟨v, a, rr⟩ := x.loc z dd e
  refine ⟨v, ?_, rr.go gS⟩
  rcases a with ⟨hk, m, hn, hm⟩ | ⟨hk, c, h, o, e, dd⟩
  · exact .inl ⟨hk, m, hn.at' fun o e => g.kp _ o (Ne.symm hl) e, hm⟩
  · exact .inr ⟨hk, c, h, o, g.kp c o (fun q => hc z (q ▸ PySem.mem_of_lookup h)) e, dd⟩

theorem Mt.poke {r : Addr} {M' : Mx6} (x : Mt hb n A env s₀ S₀ R Rs ρ M s) (hr : r = R ∨ r ∈ Rs) (g : Go (fun b => b = r) s s') (hm : ∃ rs, rs.Perm Rs ∧ MatAt s'.heap R rs M') : Mt hb n A env s₀ S₀ R Rs ρ M' s' ∧ Go (Tm env R Rs) s s' := by
  refine ⟨⟨x.cx.poke hr (x.ap r hr).1 (x.ap r hr).2 g, ?_, hm, x.ap, x.nR, x.nd⟩, g.mono fun b q => q ▸ hr.elim .inl fun h => .inr (.inl h)⟩
  rcases x.at_ with ⟨hk, m, hn, hm⟩ | ⟨hk, c, h, o, e, dd⟩
  · exact .inl ⟨hk, m, hn.at' fun o e => g.kp _ o (Ne.symm (x.ap r hr).1) e, hm⟩
  · exact .inr ⟨hk, c, h, o, g.kp c o (fun q => (x.ap r hr).2 _ (q ▸ PySem.mem_of_lookup h)) e, dd⟩

theorem MatAt.put {h h' : Heap} {i j : Nat} {r : Addr} {vs : List Value} {v : Int} {t : Tok} (m : MatAt h R rs M) (sh : Sh M) (hi : i < 6) (hR : R ∉ rs) (hnd : rs.Nodup) (hri : rs[i]? = some r) (hv : IntsAre' vs (mrow M i)) (hp : h'.PlainList r (vs.set j (.int v t)).toArray) (hs : Heap.SameBut r h h') : MatAt h' R rs (mset M i j v) := by
  have kp : ∀ b o, b ≠ r → h.get? b = some o → h'.get? b = some o := fun b o hb' e => (hs.2 b hb').trans e
  have hm := List.mem_of_getElem? hri
  refine ⟨m.top.at fun o e => kp _ _ (fun q => hR (q ▸ hm)) e, by simp [mset, m.len], fun i' r' ns h1 h2 => ?_⟩
  by_cases e : i' = i
  · subst e
    rw [hri] at h1; cases h1
    have hi' : i' < M.length := by rw [sh.1]; exact hi
    rw [mset, List.getElem?_set_self hi'] at h2
    cases h2
    refine ⟨_, hp, by simp [hv.1], fun q u k hu hk => ?_⟩
    rw [List.getElem?_set] at hu hk
    split at hu
    · rename_i e
      rw [if_pos e] at hk
      split at hu
      · cases hu
        split at hk
        · cases hk; exact ⟨_, rfl⟩
        · cases hk
      · cases hu
    · rename_i e
      rw [if_neg e] at hk
      exact hv.2 q u k hu hk
  · rw [mset, List.getElem?_set_ne (Ne.symm e)] at h2
    obtain ⟨us, p, q⟩ := m.row i' r' ns h1 h2
    refine ⟨us, p.at fun o e' => kp _ _ (fun z => e ?_) e', q⟩
    have h3 := (List.getElem?_eq_some_iff.mp h1)
    have h4 := (List.getElem?_eq_some_iff.mp hri)
    have key := List.pairwise_iff_getElem.mp hnd
    rcases Nat.lt_trichotomy i' i with q | q | q
    · exact absurd (h3.2.trans (z.trans h4.2.symm)) (key i' i h3.1 h4.1 q)
    · exact q
    · exact absurd (h4.2.trans (z.symm.trans h3.2.symm)) (key i i' h4.1 h3.1 q)

theorem MatAt.at_ {h : Heap} {i : Nat} (m : MatAt h R rs M) (sh : Sh M) (hi : i < 6) : ∃ r vs, rs[i]? = some r ∧ h.PlainList r vs.toArray ∧ IntsAre' vs (mrow M i) := by
  have hi' : i < rs.length := by rw [m.len, sh.1]; exact hi
  obtain ⟨vs, p, q⟩ := m.row i rs[i] _ (List.getElem?_eq_getElem hi') (sh.row hi).1
  exact ⟨_, vs, List.getElem?_eq_getElem hi', p, q⟩

/-- rows[i] -/
theorem row_load {p p' : Pos} {e : Expr} {i : Nat} {Q E : Value → Shared → Prop} (x : Mt hb n A env s₀ S₀ R Rs ρ M s) (sh : Sh M) (hi : i < 6) (he : EV prog w hb n A env (("rows", matD M) :: ρ) [] e (natD i))
    (hQ : ∀ s' rs r vs, Go0 s s' → rs.Perm Rs → MatAt s'.heap R rs M → rs[i]? = some r → s'.heap.PlainList r vs.toArray → IntsAre' vs (mrow M i) → Q (.ref r) s')
    (hs : ∀ (a : Addr) (u : Tok), subscripted e false (.ref a) (.int i u) = operate [.ref a, .int i u] (getItem (.ref a) (.int i u)) := by intros; rfl) : wpAny (model prog w) A (eval (.Subscript (.Name "rows" p) e p') env) Q E s := by
  refine Subscript_ (wpAny_Name (x.at_.load x.cx.kind ?_ (by decide)) (by decide))
  refine he.run s₀ S₀ _ s _ E x.opened fun u s₂ g₂ r₂ => ?_
  obtain ⟨t, rfl⟩ := r₂.intOf
  obtain ⟨rs, hp, hm⟩ := (x.keep g₂).mat
  obtain ⟨r, vs, h1, h2, h3⟩ := hm.at_ sh hi
  obtain ⟨m, hg⟩ := hm.top
  exact tail_any (isList_of hg).typeIs slot_list_getitem.lookup (wpAny_getItem_list (isList_of hg) (Int.natCast_nonneg _) (by omega) (by simpa using h1) (hQ s₂ rs r vs g₂ hp hm h1 h2 h3)) (hs _ _)

theorem EV.rowsAt {p p1 p2 : Pos} {ei ej : Expr} {i j : Nat} (sh : Sh M) (hi : i < 6) (hj : j < 6) (hei : EV prog w hb n A env ρ [] ei (natD i)) (hej : EV prog w hb n A env ρ [] ej (natD j)) (hrow : EV prog w hb n A env ρ [] (.Name "rows" p) (matD M))
    (hs1 : ∀ (a : Addr) (u : Tok), subscripted ei false (.ref a) (.int i u) = operate [.ref a, .int i u] (getItem (.ref a) (.int i u)) := by intros; rfl) (hs2 : ∀ (a : Addr) (u : Tok), subscripted ej false (.ref a) (.int j u) = operate [.ref a, .int j u] (getItem (.ref a) (.int j u)) := by intros; rfl) :
    EV prog w hb n A env ρ [] (.Subscript (.Subscript (.Name "rows" p) ei p1) ej p2) (.int (mget M i j)) :=
  .itemL (xs := (mrow M i).map .int) (k := j) (EV.toR (.itemL (xs := M.map fun r => .list (r.map .int)) (k := i) (EV.toR (show EV prog w hb n A env ρ [] (.Name "rows" p) (.list (M.map fun r => .list (r.map .int))) from hrow)) hei (Int.natCast_nonneg _) (by omega) (by rw [Int.toNat_natCast, List.getElem?_map, (sh.row hi).1]; rfl) hs1)) hej (Int.natCast_nonneg _) (by omega) (by rw [Int.toNat_natCast, List.getElem?_map, sh.get hi hj]; rfl) hs2

/-- rows[i][j] = e -/
theorem HS.setRC {p p1 p2 pos : Pos} {ei ej e : Expr} {i j : Nat} {v : Int} (sh : Sh M) (hi : i < 6) (hj : j < 6) (he : EV prog w hb n A env (("rows", matD M) :: ρ) [] e (.int v)) (hei : EV prog w hb n A env (("rows", matD M) :: ρ) [] ei (natD i)) (hej : EV prog w hb n A env (("rows", matD M) :: ρ) [] ej (natD j))
    (hs : swapsWith e (some (.Subscript (.Subscript (.Name "rows" p) ei p1) ej p2)) pos.line env = pure false := by rfl) (hs1 : ∀ (a : Addr) (u : Tok), subscripted ei false (.ref a) (.int i u) = operate [.ref a, .int i u] (getItem (.ref a) (.int i u)) := by intros; rfl) :
    HS prog w hb n A env s₀ S₀ R Rs ρ M (.Assign [.Subscript (.Subscript (.Name "rows" p) ei p1) ej p2] e pos) (.next ρ (mset M i j v)) := ⟨fun s Q E x hQ =>
  wpAny_Assign_Subscript (he.run s₀ S₀ _ s _ E x.opened fun u s₁ g₁ r₁ => row_load (x.keep g₁) sh hi hei (fun s₂ rs r vs g₂ hp hm hr hpl hv => hej.run s₀ S₀ _ s₂ _ E ((x.keep g₁).keep g₂).opened fun q s₃ g₃ r₃ => by
    obtain ⟨t, rfl⟩ := r₁.intOf
    obtain ⟨t', rfl⟩ := r₃.intOf
    have x₃ := ((x.keep g₁).keep g₂).keep g₃
    have hm₃ := hm.keep fun b o _ e => g₃.k0 b o e
    have hpl₃ : s₃.heap.PlainList r vs.toArray := hpl.at fun o e => g₃.k0 _ _ e
    refine set_plain hpl₃ (Int.natCast_nonneg _) (by omega) (by simp [hv.1, (sh.row hi).2]; omega) fun h' hp' hs' => ?_
    rw [Int.toNat_natCast] at hp'
    have hp'' : h'.PlainList r (vs.set j (.int v t)).toArray := by simpa using hp'
    obtain ⟨m', e'⟩ := id hp''
    have g₄ : Go (fun b => b = r) s₃ { s₃ with heap := h' } := Go.same (tk := s₃.toks) rfl hs' e'
    have hnd : rs.Nodup := hp.nodup_iff.mpr x.nd
    obtain ⟨x₄, gg⟩ := x₃.poke (.inr (hp.mem_iff.mp (List.mem_of_getElem? hr))) g₄ ⟨rs, hp, hm₃.put sh hi (fun q => x.nR (hp.mem_iff.mp q)) hnd hr hv hp'' hs'⟩
    exact hQ _ _ ⟨rfl, x₄, (((g₁.tr g₂).tr g₃).mono fun _ q => q.elim).tr gg⟩) hs1) hs⟩

/-- rows[i][j] op= e -/
theorem HS.augRC {p p1 p2 pos : Pos} {ei ej e : Expr} {op : Operator} {i j : Nat} {v : Int} {f : Int → Int → Int} (hop : ∀ (a b : Int) (t u : Tok) (s : Shared) (Q E : Value → Shared → Prop), Q (.int (f a b) s.toks) { s with toks := s.toks + 1 } → wpAny (model prog w) A (inplaceOp op (.int a t) (.int b u)) Q E s)
    (sh : Sh M) (hi : i < 6) (hj : j < 6) (he : EV prog w hb n A env (("rows", matD M) :: ρ) [] e (.int v)) (hei : EV prog w hb n A env (("rows", matD M) :: ρ) [] ei (natD i)) (hej : EV prog w hb n A env (("rows", matD M) :: ρ) [] ej (natD j))
    (hs : ∀ ov iv new, augStore ej ov iv new = (do holding [new, ov, iv] (PySem.setItem ov iv new); release [new, ov, iv] []; pure .next) := by intros; rfl) (hs1 : ∀ (a : Addr) (u : Tok), subscripted ei false (.ref a) (.int i u) = operate [.ref a, .int i u] (getItem (.ref a) (.int i u)) := by intros; rfl) :
    HS prog w hb n A env s₀ S₀ R Rs ρ M (.AugAssign (.Subscript (.Subscript (.Name "rows" p) ei p1) ej p2) op e pos) (.next ρ (mset M i j (f (mget M i j) v))) := ⟨fun s Q E x hQ =>
  wpAny_AugAssign_SubscriptAny (row_load x sh hi hei (fun s₂ rs r vs g₂ hp hm hr hpl hv => hej.run s₀ S₀ _ s₂ _ E (x.keep g₂).opened fun q s₃ g₃ r₃ => by
    obtain ⟨t', rfl⟩ := r₃.intOf
    have x₃ := (x.keep g₂).keep g₃
    have hm₃ := hm.keep fun b o _ e => g₃.k0 b o e
    have hpl₃ : s₃.heap.PlainList r vs.toArray := hpl.at fun o e => g₃.k0 _ _ e
    have hj' : j < vs.length := by rw [hv.1, (sh.row hi).2]; exact hj
    obtain ⟨t, ht⟩ := hv.2 j vs[j] _ (List.getElem?_eq_getElem hj') (sh.get hi hj)
    obtain ⟨m, hg⟩ := id hpl₃
    refine wpAny_getItem_list (isList_of hg) (Int.natCast_nonneg _) (by omega) (by simpa using (List.getElem?_eq_getElem hj').trans (congrArg some ht)) ?_
    refine he.run s₀ S₀ _ s₃ _ E x₃.opened fun u s₄ g₄ r₄ => ?_
    obtain ⟨t₄, rfl⟩ := r₄.intOf
    refine hop _ _ _ _ _ _ _ ?_
    have g₅ : Go0 s₄ { s₄ with toks := s₄.toks + 1 } := Go.tok
    have hm₅ := hm₃.keep fun b o _ e => (g₄.tr g₅).k0 b o e
    have hpl₅ : s₄.heap.PlainList r vs.toArray := hpl₃.at fun o e => g₄.k0 _ _ e
    have x₅ := (x₃.keep g₄).keep g₅
    refine set_plain hpl₅ (Int.natCast_nonneg _) (by omega) (by simp [hv.1, (sh.row hi).2]; omega) fun h' hp' hs' => ?_
    rw [Int.toNat_natCast] at hp'
    have hp'' : h'.PlainList r (vs.set j (.int (f (mget M i j) v) s₄.toks)).toArray := by simpa using hp'
    obtain ⟨m', e'⟩ := id hp''
    have g₆ : Go (fun b => b = r) { s₄ with toks := s₄.toks + 1 } { s₄ with heap := h', toks := s₄.toks + 1 } := Go.same (s := { s₄ with toks := s₄.toks + 1 }) (tk := s₄.toks + 1) rfl hs' e'
    have hnd : rs.Nodup := hp.nodup_iff.mpr x.nd
    obtain ⟨x₆, gg⟩ := x₅.poke (.inr (hp.mem_iff.mp (List.mem_of_getElem? hr))) g₆ ⟨rs, hp, hm₅.put sh hi (fun q => x.nR (hp.mem_iff.mp q)) hnd hr hv hp'' hs'⟩
    exact hQ _ _ ⟨rfl, x₆, ((((g₂.tr g₃).tr g₄).tr g₅).mono fun _ q => q.elim).tr gg⟩) hs1) hs⟩
end
end Mine

namespace Mine
open PySem PySem.Calls PyProof.Rows

section
variable {prog : Program} {w : World} {hb : Heap} {n : Nat} {A : Around} {env cenv : Env} {ρ ρ' ρc : Rho} {ω ω' : Omega} {s₀ sr s s' s'' : Shared} {S₀ Wt Wn : ASet} {R : Addr} {Rs rs : List Addr} {M : Mx6}

theorem assign_Sub {Mo : Model} {o i : Expr} {pos : Pos} {v : Value} {Q : Unit → Shared → Prop} {E : Value → Shared → Prop} (h : wpAny Mo A (eval o env) (fun ov s₁ => wpAny Mo A (eval i env) (fun iv s₂ => wpAny Mo A (setItem ov iv v) (fun _ => Q ()) E s₂) E s₁) E s) : wpAny Mo A (assign (.Subscript o i pos) env v) Q E s := fun Γ p hΓ => by
  simp only [assign_Subscript, Sem.wp_bind', Sem.wp_holding, Sem.wp_cmd_standAt, Sem.wp_release, Sem.wp_pure']
  exact Sem.wp_mono Mo Γ _ (fun ov p₂ s₂ h₂ => Sem.wp_mono Mo Γ _ (fun iv _ s₃ h₃ => h₃ Γ _ hΓ) (fun _ _ _ h' => h') _ _ (h₂ Γ p₂ hΓ)) (fun _ _ _ h' => h') _ _ (h Γ _ hΓ)

/-- the addresses of two rows change places -/
theorem MatAt.swap {h h' : Heap} {i j : Nat} {ri rj : Addr} (m : MatAt h R rs M) (sh : Sh M) (hi : i < 6) (hj : j < 6) (hri : rs[i]? = some ri) (hrj : rs[j]? = some rj) (hR : R ∉ rs) (hp : h'.PlainList R (((rs.set i rj).set j ri).map Value.ref).toArray) (kp : ∀ b o, b ≠ R → h.get? b = some o → h'.get? b = some o) :
    MatAt h' R ((rs.set i rj).set j ri) (mswap M i j) := by
  have hM : M.length = 6 := sh.1
  have hr : rs.length = 6 := m.len.trans hM
  have rowOf : ∀ (q : Nat) r, q < 6 → rs[q]? = some r → ∃ vs : List Value, h'.PlainList r vs.toArray ∧ IntsAre' vs (mrow M q) := fun q r hq e => by
    obtain ⟨vs, p, z⟩ := m.row q r _ e (sh.row hq).1
    exact ⟨vs, p.at fun o e' => kp _ _ (fun y => hR (y ▸ List.mem_of_getElem? e)) e', z⟩
  refine ⟨hp, by simp [mswap, m.len], fun q r ns h1 h2 => ?_⟩
  rw [mswap] at h2
  rw [List.getElem?_set] at h1 h2
  by_cases e : j = q
  · rw [if_pos e] at h1 h2
    rw [if_pos (by simp [hr, ← e, hj])] at h1
    rw [if_pos (by simp [hM, ← e, hj])] at h2
    cases h1; cases h2
    exact rowOf i _ hi hri
  · rw [if_neg e] at h1 h2
    rw [List.getElem?_set] at h1 h2
    by_cases e' : i = q
    · rw [if_pos e'] at h1 h2
      rw [if_pos (by simp [hr, ← e', hi])] at h1
      rw [if_pos (by simp [hM, ← e', hi])] at h2
      cases h1; cases h2
      exact rowOf j _ hj hrj
    · rw [if_neg e'] at h1 h2
      obtain ⟨vs, p, z⟩ := m.row q r ns h1 h2
      exact ⟨vs, p.at fun o e'' => kp _ _ (fun y => hR (y ▸ List.mem_of_getElem? h1)) e'', z⟩

theorem perm_swap {α : Type} {l : List α} {i j : Nat} {a b : α} (ha : l[i]? = some a) (hb' : l[j]? = some b) : ((l.set i b).set j a).Perm l := by
  obtain ⟨hi, rfl⟩ := List.getElem?_eq_some_iff.mp ha
  obtain ⟨hj, rfl⟩ := List.getElem?_eq_some_iff.mp hb'
  exact List.set_set_perm hi hj
end
end Mine

namespace Mine
open PySem PySem.Calls PyProof.Rows

section
variable {prog : Program} {w : World} {hb : Heap} {n : Nat} {A : Around} {env cenv : Env} {ρ ρ' ρc : Rho} {ω ω' : Omega} {s₀ sr s s' s'' : Shared} {S₀ Wt Wn : ASet} {R : Addr} {Rs rs : List Addr} {M : Mx6}

theorem at_poke {y : Str} {v : Value} {r : Addr} (a : At env s.heap y v) (hl : r ≠ env.locals) (hc : ∀ y, (y, r) ∉ env.cells) (g : Go (fun b => b = r) s s') : At env s'.heap y v := by
  rcases a with ⟨hk, m, hn, hm⟩ | ⟨hk, c, h, o, e, dd⟩
  · exact .inl ⟨hk, m, hn.at' fun o e => g.kp _ o (Ne.symm hl) e, hm⟩
  · exact .inr ⟨hk, c, h, o, g.kp c o (fun q => hc _ (q ▸ PySem.mem_of_lookup h)) e, dd⟩

/-- rows[k], rows[f] = rows[f], rows[k] -/
theorem HS.swap {p1 p2 p3 p4 q1 q2 q3 q4 t1 t2 pos : Pos} {k1 k2 : Nat} {ek ef ek' ef' : Expr} {i j : Nat} (sh : Sh M) (hi : i < 6) (hj : j < 6)
    (hek : EV prog w hb n A env (("rows", matD M) :: ρ) [] ek' (natD i)) (hef : EV prog w hb n A env (("rows", matD M) :: ρ) [] ef' (natD j)) (hek' : EV prog w hb n A env ρ [] ek (natD i)) (hef' : EV prog w hb n A env ρ [] ef (natD j))
    (hlen : (assignEach [.Subscript (.Name "rows" p1) ek q1, .Subscript (.Name "rows" p2) ef q2] env).length = 2 := by rfl) (hstar : (assignEach [.Subscript (.Name "rows" p1) ek q1, .Subscript (.Name "rows" p2) ef q2] env).findIdx? (·.1) = none := by rfl)
    (hs : swapsWithSole [.Tuple [.Subscript (.Name "rows" p1) ek q1, .Subscript (.Name "rows" p2) ef q2] k1 t1] (.Tuple [.Subscript (.Name "rows" p3) ef' q3, .Subscript (.Name "rows" p4) ek' q4] k2 t2) pos.line env = pure false := by rfl)
    (hw : swappedStores [.Tuple [.Subscript (.Name "rows" p1) ek q1, .Subscript (.Name "rows" p2) ef q2] k1 t1] (.Tuple [.Subscript (.Name "rows" p3) ef' q3, .Subscript (.Name "rows" p4) ek' q4] k2 t2) env = pure none := by rfl)
    (h1 : ∀ (a : Addr) (u : Tok), subscripted ek' false (.ref a) (.int i u) = operate [.ref a, .int i u] (getItem (.ref a) (.int i u)) := by intros; rfl)
    (h2 : ∀ (a : Addr) (u : Tok), subscripted ef' false (.ref a) (.int j u) = operate [.ref a, .int j u] (getItem (.ref a) (.int j u)) := by intros; rfl)
    (hst1 : starEach [.Subscript (.Name "rows" p3) ef' q3, .Subscript (.Name "rows" p4) ek' q4] env = (false, eval (.Subscript (.Name "rows" p3) ef' q3) env) :: starEach [.Subscript (.Name "rows" p4) ek' q4] env := by exact star_cons rfl)
    (hst2 : starEach [.Subscript (.Name "rows" p4) ek' q4] env = (false, eval (.Subscript (.Name "rows" p4) ek' q4) env) :: starEach [] env := by exact star_cons rfl) :
    HS prog w hb n A env s₀ S₀ R Rs ρ M (.Assign [.Tuple [.Subscript (.Name "rows" p1) ek q1, .Subscript (.Name "rows" p2) ef q2] k1 t1] (.Tuple [.Subscript (.Name "rows" p3) ef' q3, .Subscript (.Name "rows" p4) ek' q4] k2 t2) pos) (.next ρ (mswap M i j)) := ⟨fun s Q E x hQ => by
  refine Assign_Tuple (wpAny_Tuple (wpAny_items_cons (row_load x sh hj hef (fun s₁ rs₁ rj vj g₁ hp₁ hm₁ hj₁ _ _ => wpAny_items_cons (row_load (x.keep g₁) sh hi hek (fun s₂ rs ri vi g₂ hp hm hi₂ _ _ => wpAny_items_nil ⟨Nat.le_of_ble_eq_true rfl, ?_⟩) h1) hst2) h2) hst1)) hs hw
  have hm₁' := hm₁.keep fun b o _ e => g₂.k0 b o e
  have hrs : rs₁ = rs := by
    obtain ⟨n1, e1⟩ := hm₁'.top
    obtain ⟨n2, e2⟩ := hm.top
    rw [e1] at e2
    have e3 : rs₁.map Value.ref = rs.map Value.ref := by simp at e2; exact e2.1
    exact (List.map_inj_right fun a b q => by cases q; rfl).mp e3
  subst hrs
  have g₃ : Go0 s₂ { s₂ with heap := s₂.heap.push { cls := .type "tuple", data := .seq [Value.ref rj, Value.ref ri].toArray } } := Go.push
  have x₃ := ((x.keep g₁).keep g₂).keep g₃
  have hm₃ := hm.keep fun b o _ e => g₃.k0 b o e
  refine assign_Tuple_tuple x₃.cx.room.handled (isTup_of (Heap.get?_push_size _ rfl)) (by rw [hlen]; rfl) hstar fun h₄ he₄ => ?_
  have g₄ : Go0 { s₂ with heap := s₂.heap.push { cls := .type "tuple", data := .seq [Value.ref rj, Value.ref ri].toArray } } { s₂ with heap := h₄ } := Go.heap0 (tk := s₂.toks) fun b o e => he₄ b o (Nat.ne_of_lt (Heap.lt_size e)) e
  have x₄ := x₃.keep g₄
  have hm₄ := hm₃.keep fun b o _ e => g₄.k0 b o e
  show wpAny _ A (assignInOrder [PySem.assign (.Subscript (.Name "rows" p1) ek q1) env, PySem.assign (.Subscript (.Name "rows" p2) ef q2) env] [Value.ref rj, Value.ref ri]) _ _ _
  have hR := x.ap R (.inl rfl)
  have hil : i < rs₁.length := by rw [hm.len, sh.1]; exact hi
  have hjl : j < rs₁.length := by rw [hm.len, sh.1]; exact hj
  refine assignInOrder_cons (assign_Sub (wpAny_Name (x₄.at_.load x₄.cx.kind ?_ (by decide)) (by decide)))
  refine hek'.run s₀ S₀ _ _ _ E x₄.cx fun u s₅ g₅ r₅ => ?_
  obtain ⟨t₅, rfl⟩ := r₅.intOf
  have x₅ := x₄.keep g₅
  have hm₅ := hm₄.keep fun b o _ e => g₅.k0 b o e
  refine set_plain hm₅.top (Int.natCast_nonneg _) (by omega) (by simpa using hil) fun h₆ hp₆ hs₆ => ?_
  have hp₆' : h₆.PlainList R ((rs₁.set i rj).map Value.ref).toArray := by simpa [List.map_set] using hp₆
  obtain ⟨m₆, e₆⟩ := id hp₆'
  have g₆ : Go (fun b => b = R) s₅ { s₅ with heap := h₆ } := Go.same (tk := s₅.toks) rfl hs₆ e₆
  have cx₆ := x₅.cx.poke (.inl rfl) hR.1 hR.2 g₆
  have at₆ := at_poke x₅.at_ hR.1 hR.2 g₆
  refine assignInOrder_cons (assign_Sub (wpAny_Name (at₆.load cx₆.kind ?_ (by decide)) (by decide)))
  refine hef'.run s₀ S₀ _ _ _ E cx₆ fun u s₇ g₇ r₇ => ?_
  obtain ⟨t₇, rfl⟩ := r₇.intOf
  have hp₇ : s₇.heap.PlainList R ((rs₁.set i rj).map Value.ref).toArray := hp₆'.at fun o e => g₇.k0 _ _ e
  refine set_plain hp₇ (Int.natCast_nonneg _) (by omega) (by simpa using hjl) fun h₈ hp₈ hs₈ => assignInOrder_nil ?_
  have hp₈' : h₈.PlainList R (((rs₁.set i rj).set j ri).map Value.ref).toArray := by simpa [List.map_set] using hp₈
  obtain ⟨m₈, e₈⟩ := id hp₈'
  have g₈ : Go (fun b => b = R) s₇ { s₇ with heap := h₈ } := Go.same (tk := s₇.toks) rfl hs₈ e₈
  have gg : Go (fun b => b = R) s₅ { s₇ with heap := h₈ } := (g₆.tr (g₇.mono fun _ q => q.elim)).tr g₈
  have hR' : R ∉ rs₁ := fun q => x.nR (hp.mem_iff.mp q)
  have hj₁' : rs₁[j]? = some rj := hj₁
  obtain ⟨x₈, gt⟩ := x₅.poke (.inl rfl) gg ⟨_, (perm_swap hi₂ hj₁').trans hp, hm₅.swap sh hi hj hi₂ hj₁' hR' hp₈' gg.kp⟩
  exact hQ _ _ ⟨rfl, x₈, ((((g₁.tr g₂).tr g₃).tr g₄).tr g₅ |>.mono fun _ q => q.elim).tr gt⟩⟩
end
end Mine

namespace Mine
open PySem PySem.Calls PyProof.Rows

section
variable {prog : Program} {w : World} {hb : Heap} {n : Nat} {A : Around} {env cenv : Env} {ρ ρ' ρc : Rho} {ω ω' : Omega} {s₀ sr s s' s'' : Shared} {S₀ Wt Wn : ASet} {R : Addr} {Rs rs : List Addr} {M : Mx6}

/-- y = [a comprehension of scalars], the matrix being at work -/
theorem HS.assignComp {y : Str} {py spos : Pos} {elt t iter : Expr} {ifs : List Expr} {rest : List Comprehension} {scope : Scope} {pos : Pos} {xs ys : List PyData} (hsw : swapsWith (.ListComp elt (⟨t, iter, ifs, 0⟩ :: rest) scope pos) (some (.Name y py)) spos.line env = pure true)
    (hi : EI prog w hb n A env (("rows", matD M) :: ρ) [] t iter xs) (k : ScopeOk scope env) (hv : Vis scope env (("rows", matD M) :: ρ) ρc)
    (hc : ∀ C, CL prog w hb n A (compEnvC scope (clOf env.cells scope.names []) C env) (.ListComp elt (⟨t, iter, ifs, 0⟩ :: rest) scope pos) 0 t ρc xs ys) (hz : ys.length ≤ 1000000) (hy : Own env y) (hne : (("rows" : Str) == y) = false) (hys : ∀ d ∈ ys, scalar d = true) (hf : ∀ x, foldedSetIterable iter env x = pure x := by intro _; rfl) :
    HS prog w hb n A env s₀ S₀ R Rs ρ M (.Assign [.Name y py] (.ListComp elt (⟨t, iter, ifs, 0⟩ :: rest) scope pos) spos) (.next ((y, .list ys) :: ρ) M) := ⟨fun s Q E x hQ => by
  rw [exec_Assign_Name_used _ _ _ _ hsw]
  refine wpAny_bind (wpAny_standAt (wpAny_bind ?_))
  show wpAny _ A (do let _ ← comprehension (.ListComp elt (⟨t, iter, ifs, 0⟩ :: rest) scope pos) scope env _ (newList []) false (eval iter env) (some (PySem.assign (.Name y py) env))) _ _ s
  refine wpAny_bind (wpAny_mono (wpAny_comprehension_free (use := some (PySem.assign (.Name y py) env)) (Q := fun _ s' => Q .next s') rfl hf (closureFor_is k.free) k.kind k.names
    (comp_run (R := fun acc C => compPost (model prog w) A E (some (PySem.assign (.Name y py) env)) (fun _ s' => Q .next s') acc C) x.opened hi k hv hc hz fun D C s' e => ?_)) (fun _ s' hq => wpAny_pure (wpAny_pure hq)) fun _ _ e => e)
  show wpAny _ A (PySem.assign (.Name y py) env (.ref D)) _ _ s'
  obtain ⟨m, hn⟩ := e.ns
  have hCe : ∃ o, s'.heap.get? C = some o := by obtain ⟨o, _, _, e', _⟩ := hn; exact ⟨o, e'⟩
  have xc := x.cx
  have x' := xc.grow (Wn := fun b => b = C) e.go fun b q => ⟨q ▸ e.newC, q ▸ hCe⟩
  have cL : C ≠ env.locals := fun q => by obtain ⟨o, e'⟩ := xc.bd (b := env.locals) (.inr (.inr (.inl rfl))); rw [← q, e.newC] at e'; cases e'
  have cC : ∀ z, (z, C) ∉ env.cells := fun z hm => by obtain ⟨o, e'⟩ := xc.bd (b := C) (.inr (.inr (.inr (.inl ⟨z, hm⟩)))); rw [e.newC] at e'; cases e'
  have rD : Rep (Sx S₀ (fun b => (b = R ∨ b ∈ Rs) ∨ b = C) env []) s'.heap (.ref D) (.list ys) := by
    obtain ⟨vs, ⟨m, hp⟩, r⟩ := e.acc
    refine .listIs (fun q => ?_) hp ⟨r.1, fun i v d a b => (r.2 i v d a b).scalar (hys d (List.mem_of_getElem? b))⟩
    have old : ∀ b, Sx S₀ (fun b => b = R ∨ b ∈ Rs) env [] b → b ≠ D := fun b q z => by
      obtain ⟨o, e'⟩ := xc.bd q
      rw [z, e.newD] at e'; cases e'
    rcases q with q | (q | q) | q
    · exact old _ (.inl q) rfl
    · exact old _ (.inr (.inl q)) rfl
    · exact e.ne q
    · exact old _ (.inr (.inr q)) rfl
  refine wpAny_assign_Name (store_keep x' hy rD (fun p hp => nomatch hp) fun s'' g'' x'' o'' => ?_)
  have nM : ∀ b, b = C → ¬ Mx env [] b := fun b hb' q => by
    rcases q with q | ⟨z, q⟩ | ⟨p, hp, _⟩
    · exact cL (hb' ▸ q)
    · exact cC z (hb' ▸ q)
    · cases hp
  refine ⟨m, hn.at' fun o e' => g''.kp _ _ (nM C rfl) e', fun h' hs' => ?_⟩
  have gC : Gw (fun b => b = C) s'' { s'' with heap := h' } := Gw.heap (tk := s''.toks) fun b o hb' e' => (hs'.2 b hb').trans e'
  have nC : ∀ b o, s.heap.get? b = some o → b ≠ C := fun b o e' q => by rw [q, e.newC] at e'; cases e'
  have cW : ¬ (C = R ∨ C ∈ Rs) := fun q => by obtain ⟨o, e'⟩ := (xc.wt C q).1; rw [e.newC] at e'; cases e'
  have gg : Go (Mx env []) s s'' := (e.go.mono fun _ q => q.elim).tr g''
  have gt : Go (Mx env []) s { s'' with heap := h' } := ⟨fun b o hb' e' => gC.kp b o (nC b o e') (gg.kp b o hb' e'), fun b o e' => by
    obtain ⟨o', e''⟩ := gg.ex b o e'
    exact ⟨o', gC.kp b o' (nC b o e') e''⟩, gg.gens, gg.bare, gg.drawn, gg.os⟩
  refine hQ _ _ ⟨rfl, ⟨x''.dropWt gC fun b q => ⟨q ▸ cW, q ▸ cL, q ▸ cC⟩, ?_, ?_, x.ap, x.nR, x.nd⟩, Go.toTm gt⟩
  · have a1 := o'' _ _ (by simpa using hne) (x.at_.kp e.go.k0)
    rcases a1 with ⟨hk, m, hn, hm⟩ | ⟨hk, c, hc, o, e', dd⟩
    · exact .inl ⟨hk, m, hn.at' fun o e' => gC.kp _ o (Ne.symm cL) e', hm⟩
    · exact .inr ⟨hk, c, hc, o, gC.kp c o (fun q => cC _ (q ▸ PySem.mem_of_lookup hc)) e', dd⟩
  · obtain ⟨rs, hp, hm⟩ := x.mat
    exact ⟨rs, hp, hm.keep fun b o hb' e' => gt.kp b o (x.nm b (hb'.imp id fun q => hp.mem_iff.mp q)) e'⟩⟩
end
end Mine

namespace Mine
open PySem PySem.Calls PyProof.Rows

theorem mget_mset {M : Mx6} (sh : Sh M) {i j : Nat} (hi : i < 6) (hj : j < 6) (v : Int) (i' j' : Nat) : mget (mset M i j v) i' j' = if i' = i ∧ j' = j then v else mget M i' j' := by
  have hM : i < M.length := by rw [sh.1]; exact hi
  have hR : j < (mrow M i).length := by rw [(sh.row hi).2]; exact hj
  unfold mget mset
  by_cases e : i' = i
  · subst e
    have : mrow (M.set i' ((mrow M i').set j v)) i' = (mrow M i').set j v := by simp [mrow, List.getD, List.getElem?_set_self hM]
    rw [this]
    by_cases e : j' = j
    · subst e; simp [List.getD, List.getElem?_set_self hR]
    · simp [List.getD, List.getElem?_set_ne (Ne.symm e), e]
  · have : mrow (M.set i ((mrow M i).set j v)) i' = mrow M i' := by simp [mrow, List.getD, List.getElem?_set_ne (Ne.symm e)]
    rw [this]; simp [e]
theorem mrow_mset {M : Mx6} {i k j : Nat} {v : Int} (h : k ≠ i) : mrow (mset M i j v) k = mrow M k := by
  simp [mrow, mset, List.getD, List.getElem?_set_ne (Ne.symm h)]
theorem mget_row {M M' : Mx6} {k j : Nat} (h : mrow M' k = mrow M k) : mget M' k j = mget M k j := by unfold mget; rw [h]
theorem mget_mswap {M : Mx6} (sh : Sh M) {i j : Nat} (hi : i < 6) (hj : j < 6) (i' j' : Nat) : mget (mswap M i j) i' j' = if i' = j then mget M i j' else if i' = i then mget M j j' else mget M i' j' := by
  have hM : M.length = 6 := sh.1
  unfold mget mswap
  have : mrow ((M.set i (mrow M j)).set j (mrow M i)) i' = if i' = j then mrow M i else if i' = i then mrow M j else mrow M i' := by
    by_cases e : i' = j
    · subst e
      rw [if_pos rfl]
      show (List.getD _ _ _) = _
      rw [List.getD, List.getElem?_set_self (by simp [hM, hj])]; rfl
    · rw [if_neg e]
      show (List.getD _ _ _) = _
      rw [List.getD, List.getElem?_set_ne (Ne.symm e)]
      by_cases e' : i' = i
      · subst e'
        rw [if_pos rfl, List.getElem?_set_self (by simp [hM, hi])]; rfl
      · rw [if_neg e', List.getElem?_set_ne (Ne.symm e')]; rfl
  rw [this]
  split
  · rfl
  · split <;> rfl

/-- the next entry of the elimination -/
noncomputable def cellN (M : Mx6) (k : Nat) (last : Int) (i j : Nat) : Int := (mget M i j * mget M k k - mget M i k * mget M k j).fdiv last
noncomputable def after (k : Nat) : List Nat := (List.range (5 - k)).map (k + 1 + ·)
noncomputable def lineN (k : Nat) (last : Int) (i : Nat) (M : Mx6) (js : List Nat) : Mx6 := js.foldl (fun M j => mset M i j (cellN M k last i j)) M
noncomputable def blockN (k : Nat) (last : Int) (js : List Nat) (M : Mx6) (is : List Nat) : Mx6 := is.foldl (fun M i => lineN k last i M js) M
noncomputable def stage (M : Mx6) (k : Nat) (last : Int) : Mx6 := blockN k last (after k) M (after k)

theorem lineN_sh {k : Nat} {last : Int} {i : Nat} (hi : i < 6) : ∀ (js : List Nat) {M : Mx6}, Sh M → Sh (lineN k last i M js)
  | [], _, h => h
  | j :: js, M, h => lineN_sh hi js (h.set hi)
theorem lineN_row {k q : Nat} {last : Int} {i : Nat} (hq : q ≠ i) : ∀ (js : List Nat) {M : Mx6}, mrow (lineN k last i M js) q = mrow M q
  | [], _ => rfl
  | j :: js, M => (lineN_row hq js).trans (mrow_mset hq)
theorem blockN_sh {k : Nat} {last : Int} {js : List Nat} : ∀ (is : List Nat) {M : Mx6}, (∀ i ∈ is, i < 6) → Sh M → Sh (blockN k last js M is)
  | [], _, _, h => h
  | i :: is, M, hi, h => blockN_sh is (fun q hq => hi q (.tail _ hq)) (lineN_sh (hi i (.head _)) js h)
theorem blockN_row {k q : Nat} {last : Int} {js : List Nat} : ∀ (is : List Nat) {M : Mx6}, (∀ i ∈ is, q ≠ i) → mrow (blockN k last js M is) q = mrow M q
  | [], _, _ => rfl
  | i :: is, M, h => (blockN_row is fun a ha => h a (.tail _ ha)).trans (lineN_row (h i (.head _)) js)

theorem cellN_mset {M : Mx6} (sh : Sh M) {i j j' k : Nat} {v last : Int} (hi : i < 6) (hj : j < 6) (hk : k ≠ i) (hjk : j ≠ k) (hne : j' ≠ j) : cellN (mset M i j v) k last i j' = cellN M k last i j' := by
  have g := fun a b => mget_mset sh hi hj v a b
  unfold cellN
  rw [g, g, g, g, if_neg (by simp [hne]), if_neg (by simp [hk]), if_neg (by simp [Ne.symm hjk]), if_neg (by simp [hk])]
theorem lineN_get {k : Nat} {last : Int} {i : Nat} (hi : i < 6) (hk : k ≠ i) : ∀ (js : List Nat) {M : Mx6}, Sh M → js.Nodup → (∀ j ∈ js, j < 6 ∧ j ≠ k) → ∀ i' j', mget (lineN k last i M js) i' j' = if i' = i ∧ j' ∈ js then cellN M k last i j' else mget M i' j'
  | [], M, _, _, _, i', j' => by simp [lineN]
  | j :: js, M, sh, nd, hj, i', j' => by
    obtain ⟨nd1, nd2⟩ := List.nodup_cons.mp nd
    have hj0 := hj j (.head _)
    have ih := lineN_get (last := last) hi hk js (sh.set hi (j := j) (v := cellN M k last i j)) nd2 (fun q hq => hj q (.tail _ hq)) i' j'
    have e : lineN k last i M (j :: js) = lineN k last i (mset M i j (cellN M k last i j)) js := rfl
    rw [e, ih]
    have g := fun a b => mget_mset sh hi hj0.1 (cellN M k last i j) a b
    by_cases h1 : i' = i
    · subst h1
      by_cases h2 : j' ∈ js
      · have hne : j' ≠ j := fun q => nd1 (q ▸ h2)
        rw [if_pos ⟨rfl, h2⟩, if_pos ⟨rfl, .tail _ h2⟩]
        exact cellN_mset sh hi hj0.1 hk hj0.2 hne
      · rw [if_neg (by simp [h2]), g]
        by_cases h3 : j' = j
        · subst h3; rw [if_pos ⟨rfl, rfl⟩, if_pos ⟨rfl, .head _⟩]
        · rw [if_neg (by simp [h3]), if_neg (by simp [h2, h3])]
    · rw [if_neg (by simp [h1]), if_neg (by simp [h1]), g, if_neg (by simp [h1])]
theorem cellN_congr {M M' : Mx6} {k : Nat} {last : Int} {i j : Nat} (h1 : mrow M' k = mrow M k) (h2 : mrow M' i = mrow M i) : cellN M' k last i j = cellN M k last i j := by
  unfold cellN; rw [mget_row h1, mget_row h1, mget_row h2, mget_row h2]
theorem blockN_get {k : Nat} {last : Int} {js : List Nat} (ndj : js.Nodup) (hj : ∀ j ∈ js, j < 6 ∧ j ≠ k) : ∀ (is : List Nat) {M : Mx6}, Sh M → is.Nodup → (∀ i ∈ is, i < 6 ∧ k ≠ i) → ∀ i' j', mget (blockN k last js M is) i' j' = if i' ∈ is ∧ j' ∈ js then cellN M k last i' j' else mget M i' j'
  | [], M, _, _, _, i', j' => by simp [blockN]
  | i :: is, M, sh, nd, hi, i', j' => by
    obtain ⟨nd1, nd2⟩ := List.nodup_cons.mp nd
    have hi0 := hi i (.head _)
    have e : blockN k last js M (i :: is) = blockN k last js (lineN k last i M js) is := rfl
    rw [e, blockN_get ndj hj is (lineN_sh hi0.1 js sh) nd2 (fun q hq => hi q (.tail _ hq)) i' j', lineN_get hi0.1 hi0.2 js sh ndj hj]
    by_cases h1 : i' ∈ is
    · have hne : i' ≠ i := fun q => nd1 (q ▸ h1)
      rw [cellN_congr (lineN_row hi0.2 js) (lineN_row hne js)]
      by_cases h2 : j' ∈ js
      · rw [if_pos ⟨h1, h2⟩, if_pos ⟨.tail _ h1, h2⟩]
      · rw [if_neg (by simp [h2]), if_neg (by simp [h2]), if_neg (by simp [h2])]
    · rw [if_neg (by simp [h1])]
      by_cases h3 : i' = i
      · subst h3
        by_cases h2 : j' ∈ js
        · rw [if_pos ⟨rfl, h2⟩, if_pos ⟨.head _, h2⟩]
        · rw [if_neg (by simp [h2]), if_neg (by simp [h2])]
      · rw [if_neg (by simp [h3]), if_neg (by simp [h1, h3])]
theorem after_mem {k i : Nat} (hk : k < 6) : i ∈ after k ↔ k < i ∧ i < 6 := by
  unfold after
  rw [List.mem_map]
  constructor
  · rintro ⟨a, ha, rfl⟩; have := List.mem_range.mp ha; omega
  · rintro ⟨h1, h2⟩; exact ⟨i - (k + 1), List.mem_range.mpr (by omega), by omega⟩
theorem after_nd (k : Nat) : (after k).Nodup := (List.nodup_range).map _ (by intro a b h; omega) |> fun h => h
theorem stage_get {M : Mx6} {k : Nat} {last : Int} (sh : Sh M) (hk : k < 6) (i j : Nat) : mget (stage M k last) i j = if (k < i ∧ i < 6) ∧ (k < j ∧ j < 6) then cellN M k last i j else mget M i j := by
  have h : ∀ j ∈ after k, j < 6 ∧ j ≠ k := fun j hj => by have := (after_mem hk).mp hj; omega
  have := blockN_get (last := last) (after_nd k) h (after k) sh (after_nd k) (fun j hj => ⟨(h j hj).1, (h j hj).2.symm⟩) i j
  rw [show stage M k last = blockN k last (after k) M (after k) from rfl, this]
  simp only [after_mem hk]
theorem stage_sh {M : Mx6} {k : Nat} {last : Int} (sh : Sh M) (hk : k < 6) : Sh (stage M k last) := blockN_sh _ (fun i hi => ((after_mem hk).mp hi).2) sh
theorem stage_row {M : Mx6} {k : Nat} {last : Int} (hk : k < 6) : mrow (stage M k last) k = mrow M k := blockN_row _ fun i hi => by have := (after_mem hk).mp hi; omega

noncomputable def Bnd (M : Mx6) (b : Nat) : Prop := ∀ i j, (mget M i j).natAbs ≤ 2 ^ b
theorem Bnd.up {M : Mx6} {b c : Nat} (h : Bnd M b) (hc : b ≤ c) : Bnd M c := fun i j => Nat.le_trans (h i j) (Nat.pow_le_pow_right (by decide) hc)
theorem Bnd.stage {M : Mx6} {k b : Nat} {last : Int} (h : Bnd M b) (sh : Sh M) (hk : k < 6) : Bnd (stage M k last) (2 * b + 1) := fun i j => by
  rw [stage_get sh hk]
  split
  · unfold cellN
    refine Nat.le_trans (Int.natAbs_fdiv_le_natAbs _ _) (Nat.le_trans (Int.natAbs_sub_le _ _) ?_)
    rw [Int.natAbs_mul, Int.natAbs_mul]
    have h1 := Nat.mul_le_mul (h i j) (h k k)
    have h2 := Nat.mul_le_mul (h i k) (h k j)
    have h3 : 2 ^ (2 * b + 1) = 2 ^ b * 2 ^ b + 2 ^ b * 2 ^ b := by rw [Nat.pow_succ, Nat.two_mul, Nat.pow_add]; omega
    omega
  · exact (h.up (by omega)) i j
theorem Bnd.swap {M : Mx6} {b i j : Nat} (h : Bnd M b) (sh : Sh M) (hi : i < 6) (hj : j < 6) : Bnd (mswap M i j) b := fun p q => by
  rw [mget_mswap sh hi hj]
  split
  · exact h _ _
  · split
    · exact h _ _
    · exact h _ _
theorem mulOkBig {a b : Int} {c : Nat} (ha : a.natAbs ≤ 2 ^ c) (hb : b.natAbs ≤ 2 ^ c) (hc : c ≤ 1000) : IntMulOk a b := by
  have h1 : Builtin.Int.intBits a ≤ c + 1 := bits_lt (Nat.lt_of_le_of_lt ha (Nat.pow_lt_pow_right (by decide) (Nat.lt_succ_self _)))
  have h2 : Builtin.Int.intBits b ≤ c + 1 := bits_lt (Nat.lt_of_le_of_lt hb (Nat.pow_lt_pow_right (by decide) (Nat.lt_succ_self _)))
  unfold IntMulOk
  have : Builtin.Int.intTooBig (Builtin.Int.intBits a + Builtin.Int.intBits b) = false := by
    unfold Builtin.Int.intTooBig
    rw [decide_eq_false]
    have : (2002 : Int) < bitsLine := by decide
    omega
  rw [this]; simp
theorem ndivBig {a b : Int} {c : Nat} (hb : b.natAbs ≤ 2 ^ c) (hc : c ≤ 1000) : Builtin.divisionGoesByPylong a b = false := by
  refine PyProof.noPylong_of_log2 ?_
  by_cases h0 : b.natAbs = 0
  · rw [h0]; decide +kernel
  · have : b.natAbs < 2 ^ 1001 := Nat.lt_of_le_of_lt hb (Nat.pow_lt_pow_right (by decide) (by omega))
    have := (Nat.log2_lt h0).mpr this
    omega

/-- a call put into the matrix -/
noncomputable def addNet (M : Mx6) (m : Nat) : Mx6 :=
  mset (mset M (cld m) (cal m) (mget M (cld m) (cal m) + (cnt m : Nat))) (cal m) (cld m) (mget (mset M (cld m) (cal m) (mget M (cld m) (cal m) + (cnt m : Nat))) (cal m) (cld m) - (cnt m : Nat))
noncomputable def netM (ms : List Nat) : Mx6 := ms.foldl addNet M0
noncomputable def foundL (M : Mx6) (k : Nat) : List Nat := ((List.range (6 - k)).map (k + ·)).filter fun i => mget M i k != 0
noncomputable def pivM (M : Mx6) (k f : Nat) : Mx6 := if f != k then mswap M k f else M
noncomputable def pivT (turn : Int) (k f : Nat) : Int := if f != k then -turn else turn
/-- the elimination: the matrix, the turn, the last -/
noncomputable def elimR : List Nat → Mx6 → Int → Int → Option (Mx6 × Int × Int)
  | [], M, turn, last => some (M, turn, last)
  | k :: ks, M, turn, last => match foundL M k with
    | [] => none
    | f :: _ => elimR ks (stage (pivM M k f) k last) (pivT turn k f) (mget (pivM M k f) k k)
noncomputable def detOf (ms : List Nat) : Int := match elimR [0, 1, 2, 3, 4] (netM ms) 1 1 with
  | none => 0
  | some (M, turn, _) => turn * mget M 5 5
end Mine

namespace Mine
open PySem PySem.Calls PyProof.Rows

/-- turns that may end the whole -/
noncomputable def foldO {σ : Type} (step : Nat → σ → Option σ) : List Nat → σ → Option σ
  | [], s => some s
  | k :: ks, s => match step k s with
    | none => none
    | some s' => foldO step ks s'
theorem foldO_P {σ : Type} {step : Nat → σ → Option σ} (P : List Nat → σ → Prop) (h : ∀ k ks s s', P (k :: ks) s → step k s = some s' → P ks s') : ∀ ks s s', P ks s → foldO step ks s = some s' → P [] s'
  | [], s, s', hp, e => by cases e; exact hp
  | k :: ks, s, s', hp, e => by
    unfold foldO at e
    cases q : step k s with
    | none => rw [q] at e; cases e
    | some s₁ => rw [q] at e; exact foldO_P P h ks s₁ s' (h k ks s s₁ hp q) e

section
variable {prog : Program} {w : World} {hb : Heap} {n : Nat} {A : Around} {env cenv : Env} {ρ ρ' ρc : Rho} {ω ω' : Omega} {s₀ sr s s' s'' : Shared} {S₀ Wt Wn : ASet} {R : Addr} {Rs rs : List Addr} {M : Mx6}
noncomputable def outO {σ : Type} (Rh : σ → Rho) (O : σ → Mx6) (r : PyData) : Option σ → OutM
  | none => .ret r
  | some s => .next (Rh s) (O s)
theorem HF.run_ {σ : Type} {t : Expr} {body : List Stmt} {r : PyData} (P : List Nat → σ → Prop) (Rh : σ → Rho) (O : σ → Mx6) (step : Nat → σ → Option σ)
    (h : ∀ k ks s, P (k :: ks) s → ∃ ρ' ρ'', TM prog w hb n A env s₀ S₀ R Rs (Rh s) t (natD k) ρ' ∧ HT prog w hb n A env s₀ S₀ R Rs ρ' (O s) body (outO (fun _ => ρ'') O r (step k s)) ∧ ∀ s', step k s = some s' → Cov ρ'' (Rh s') ∧ P ks s') :
    ∀ ks s, P ks s → HF prog w hb n A env s₀ S₀ R Rs (Rh s) (O s) t body (ks.map natD) (outO Rh O r (foldO step ks s))
  | [], s, _ => .nil
  | k :: ks, s, hp => by
    obtain ⟨ρ', ρ'', h1, h2, h3⟩ := h k ks s hp
    unfold foldO
    cases q : step k s with
    | none => rw [q] at h2; exact .ret h1 h2
    | some s₁ =>
      rw [q] at h2
      obtain ⟨hc, hp'⟩ := h3 s₁ q
      exact .next h1 h2 ((HF.run_ P Rh O step h ks s₁ hp').sub hc)
end

structure Est where
  M : Mx6
  turn : Int
  last : Int
noncomputable def stepE (k : Nat) (s : Est) : Option Est := match foundL s.M k with
  | [] => none
  | f :: _ => some ⟨stage (pivM s.M k f) k s.last, pivT s.turn k f, mget (pivM s.M k f) k k⟩
theorem elimR_fold : ∀ (ks : List Nat) (s : Est), elimR ks s.M s.turn s.last = (foldO stepE ks s).map fun s => (s.M, s.turn, s.last)
  | [], s => rfl
  | k :: ks, s => by
    unfold elimR foldO stepE
    cases foundL s.M k with
    | nil => rfl
    | cons f r => exact elimR_fold ks ⟨_, _, _⟩

noncomputable def growB : Nat → Nat → Nat
  | 0, b => b
  | m + 1, b => growB m (2 * b + 1)
theorem le_growB : ∀ m b, b ≤ growB m b
  | 0, b => Nat.le_refl _
  | m + 1, b => Nat.le_trans (by omega) (le_growB m (2 * b + 1))
/-- what stands ahead of the turns ks -/
structure EOk (ks : List Nat) (s : Est) : Prop where
  sh : Sh s.M
  ks5 : ∀ k ∈ ks, k < 5
  last : s.last ≠ 0
  turn : s.turn.natAbs ≤ 1
  bd : ∃ b, growB ks.length b ≤ 1000 ∧ Bnd s.M b ∧ s.last.natAbs ≤ 2 ^ b

theorem foundL_mem {M : Mx6} {k f : Nat} {r : List Nat} (hk : k < 6) (h : foundL M k = f :: r) : k ≤ f ∧ f < 6 ∧ mget M f k ≠ 0 := by
  have : f ∈ foundL M k := by rw [h]; exact .head _
  unfold foundL at this
  obtain ⟨h1, h2⟩ := List.mem_filter.mp this
  obtain ⟨a, ha, e⟩ := List.mem_map.mp h1
  have := List.mem_range.mp ha
  refine ⟨by omega, by omega, by simpa using h2⟩
theorem pivM_sh {M : Mx6} {k f : Nat} (sh : Sh M) (hk : k < 6) (hf : f < 6) : Sh (pivM M k f) := by
  unfold pivM; split
  · exact sh.swap hk hf
  · exact sh
theorem pivM_kk {M : Mx6} {k f : Nat} (sh : Sh M) (hk : k < 6) (hf : f < 6) : mget (pivM M k f) k k = mget M f k := by
  unfold pivM; split
  · rename_i h
    have : f ≠ k := by simpa using h
    rw [mget_mswap sh hk hf, if_neg (Ne.symm this), if_pos rfl]
  · rename_i h
    have : f = k := by simpa using h
    rw [this]
theorem pivM_bnd {M : Mx6} {k f b : Nat} (h : Bnd M b) (sh : Sh M) (hk : k < 6) (hf : f < 6) : Bnd (pivM M k f) b := by
  unfold pivM; split
  · exact h.swap sh hk hf
  · exact h
theorem EOk.step {k : Nat} {ks : List Nat} {s s' : Est} (h : EOk (k :: ks) s) (e : stepE k s = some s') : EOk ks s' := by
  have hk : k < 5 := h.ks5 k (.head _)
  unfold stepE at e
  cases q : foundL s.M k with
  | nil => rw [q] at e; cases e
  | cons f r =>
    rw [q] at e
    have e' : s' = ⟨stage (pivM s.M k f) k s.last, pivT s.turn k f, mget (pivM s.M k f) k k⟩ := (Option.some.inj e).symm
    subst e'
    obtain ⟨h1, h2, h3⟩ := foundL_mem (by omega) q
    have hk6 : k < 6 := by omega
    have sh' := pivM_sh h.sh hk6 h2
    obtain ⟨b, hb1, hb2, hb3⟩ := h.bd
    have hb' := pivM_bnd hb2 h.sh hk6 h2
    refine ⟨stage_sh sh' hk6, fun q hq => h.ks5 q (.tail _ hq), by rw [show (Est.last _) = mget (pivM s.M k f) k k from rfl, pivM_kk h.sh hk6 h2]; exact h3, ?_, 2 * b + 1, hb1, hb'.stage sh' hk6, Nat.le_trans (hb' k k) (Nat.pow_le_pow_right (by decide) (by omega))⟩
    show (pivT s.turn k f).natAbs ≤ 1
    unfold pivT; split
    · rw [Int.natAbs_neg]; exact h.turn
    · exact h.turn

theorem cld_ne (m : Nat) : cld m ≠ cal m := by unfold cld cal; omega
theorem addNet_sh {M : Mx6} (sh : Sh M) (m : Nat) : Sh (addNet M m) := (sh.set (cld_lt m)).set (cal_lt m)
theorem addNet_get {M : Mx6} (sh : Sh M) (m i j : Nat) : mget (addNet M m) i j = if i = cal m ∧ j = cld m then mget M i j - (cnt m : Nat) else if i = cld m ∧ j = cal m then mget M i j + (cnt m : Nat) else mget M i j := by
  unfold addNet
  rw [mget_mset (sh.set (cld_lt m)) (cal_lt m) (cld_lt m), mget_mset sh (cld_lt m) (cal_lt m), mget_mset sh (cld_lt m) (cal_lt m)]
  have hne := cld_ne m
  by_cases h1 : i = cal m ∧ j = cld m
  · rw [if_pos h1, if_pos h1, if_neg (fun q => hne q.1.symm), h1.1, h1.2]
  · rw [if_neg h1, if_neg h1]
    by_cases h2 : i = cld m ∧ j = cal m
    · rw [if_pos h2, if_pos h2, h2.1, h2.2]
    · rw [if_neg h2, if_neg h2]
theorem M0_sh : Sh M0 := ⟨rfl, by simp [M0, zeros]⟩
theorem M0_get (i j : Nat) : mget M0 i j = 0 := by
  by_cases hi : i < 6
  · by_cases hj : j < 6
    · match i, j, hi, hj with
      | 0, j, _, hj | 1, j, _, hj | 2, j, _, hj | 3, j, _, hj | 4, j, _, hj | 5, j, _, hj =>
        match j, hj with
        | 0, _ | 1, _ | 2, _ | 3, _ | 4, _ | 5, _ => rfl
    · have : (mrow M0 i).length ≤ 6 := by rw [(M0_sh.row hi).2]; exact Nat.le_refl _
      unfold mget; rw [List.getD, List.getElem?_eq_none (by omega)]; rfl
  · have : mrow M0 i = [] := by unfold mrow; rw [List.getD, List.getElem?_eq_none (by simp [M0]; omega)]; rfl
    unfold mget; rw [this]; rfl
theorem netM_go : ∀ (ms : List Nat) (M : Mx6) (c : Nat), Sh M → (∀ i j, (mget M i j).natAbs ≤ c) → Sh (ms.foldl addNet M) ∧ ∀ i j, (mget (ms.foldl addNet M) i j).natAbs ≤ c + 4 * ms.length
  | [], M, c, sh, h => ⟨sh, fun i j => by simpa using h i j⟩
  | m :: ms, M, c, sh, h => by
    have := netM_go ms (addNet M m) (c + 4) (addNet_sh sh m) fun i j => by
      have hc := cnt_le m
      have h0 := h i j
      rw [addNet_get sh]
      split
      · omega
      · split <;> omega
    rw [List.foldl_cons, List.length_cons]
    exact ⟨this.1, fun i j => Nat.le_trans (this.2 i j) (by omega)⟩
theorem netM_ok {ms : List Nat} (hl : ms.length ≤ 11) : EOk [0, 1, 2, 3, 4] ⟨netM ms, 1, 1⟩ := by
  obtain ⟨h1, h2⟩ := netM_go ms M0 0 M0_sh fun i j => by rw [M0_get]; decide
  exact ⟨h1, by decide, show (1 : Int) ≠ 0 by decide, show (1 : Int).natAbs ≤ 1 by decide, 6, by decide, fun i j => Nat.le_trans (h2 i j) (by omega), show (1 : Int).natAbs ≤ 2 ^ 6 by decide⟩
end Mine

namespace Mine
open PySem PySem.Calls PyProof.Rows

section
variable {prog : Program} {w : World} {hb : Heap} {n : Nat} {A : Around} {env : Env} {ρ : Rho} {ω : Omega} {s₀ s : Shared} {S₀ Wt : ASet} {R : Addr} {Rs : List Addr}

theorem ints_from (a m : Nat) : intsD a m = ((List.range m).map (a + ·)).map natD := by
  unfold intsD natD
  rw [List.map_map]
  refine List.map_congr_left fun i _ => ?_
  simp [Function.comp_def]
theorem ints_after (k : Nat) : intsD ((k : Int) + 1) (5 - k) = (after k).map natD := by
  unfold intsD natD after
  rw [List.map_map]
  refine List.map_congr_left fun i _ => ?_
  simp [Function.comp_def]
theorem lineN_snoc {k i q a : Nat} {last : Int} {M : Mx6} {l : List Nat} (h : l[q]? = some a) : lineN k last i M (l.take (q + 1)) = mset (lineN k last i M (l.take q)) i a (cellN (lineN k last i M (l.take q)) k last i a) := by
  unfold lineN; rw [List.take_add_one, h, List.foldl_append]; rfl
theorem blockN_snoc {k q a : Nat} {last : Int} {M : Mx6} {js l : List Nat} (h : l[q]? = some a) : blockN k last js M (l.take (q + 1)) = lineN k last a (blockN k last js M (l.take q)) js := by
  unfold blockN; rw [List.take_add_one, h, List.foldl_append]; rfl
theorem take_notin {l : List Nat} {q a : Nat} (nd : l.Nodup) (h : l[q]? = some a) : a ∉ l.take q := fun hm => by
  obtain ⟨i, hi, e⟩ := List.mem_iff_getElem.mp hm
  rw [List.length_take] at hi
  rw [List.getElem_take] at e
  obtain ⟨hq, e'⟩ := List.getElem?_eq_some_iff.mp h
  exact List.pairwise_iff_getElem.mp nd i q (by omega) hq (by omega) (e.trans e'.symm)
theorem part_bnd {M : Mx6} {k i b : Nat} {last : Int} {js is jq : List Nat} (h : Bnd M b) (sh : Sh M) (hk : k < 6) (ndj : js.Nodup) (hj : ∀ j ∈ js, j < 6 ∧ j ≠ k) (ndi : is.Nodup) (hi : ∀ a ∈ is, a < 6 ∧ k ≠ a) (hi6 : i < 6) (hki : k ≠ i) (ndq : jq.Nodup) (hq : ∀ j ∈ jq, j < 6 ∧ j ≠ k) (hni : i ∉ is) : Bnd (lineN k last i (blockN k last js M is) jq) (2 * b + 1) := fun a c => by
  have hcell : ∀ a c, (cellN M k last a c).natAbs ≤ 2 ^ (2 * b + 1) := fun i j => by
    unfold cellN
    refine Nat.le_trans (Int.natAbs_fdiv_le_natAbs _ _) (Nat.le_trans (Int.natAbs_sub_le _ _) ?_)
    rw [Int.natAbs_mul, Int.natAbs_mul]
    have h1 := Nat.mul_le_mul (h i j) (h k k)
    have h2 := Nat.mul_le_mul (h i k) (h k j)
    have h3 : 2 ^ (2 * b + 1) = 2 ^ b * 2 ^ b + 2 ^ b * 2 ^ b := by rw [Nat.pow_succ, Nat.two_mul, Nat.pow_add]; omega
    omega
  have shb : Sh (blockN k last js M is) := blockN_sh _ (fun a ha => (hi a ha).1) sh
  rw [lineN_get hi6 hki jq shb ndq hq]
  split
  · rw [cellN_congr (i := i) (blockN_row _ fun a ha => (hi a ha).2) (blockN_row _ fun a' ha => fun (q : i = a') => hni (by rw [q]; exact ha))]
    exact hcell _ _
  · rw [blockN_get ndj hj is sh ndi hi]
    split
    · exact hcell _ _
    · exact h.up (by omega) a c
theorem filter_natD (p : Nat → Bool) : ∀ l : List Nat, (l.filterMap fun i => if p i = true then some (natD i) else none) = (l.filter p).map natD
  | [] => rfl
  | a :: r => by
    rw [List.filterMap_cons, List.filter_cons]
    cases h : p a with
    | true => simp [filter_natD p r]
    | false => simp [filter_natD p r]

theorem HT.consO {σ : Type} {M : Mx6} {st : Stmt} {rest : List Stmt} {Rh : σ → Rho} {O : σ → Mx6} {r d : PyData} {o : Option σ} (h : HS prog w hb n A env s₀ S₀ R Rs ρ M st (outO Rh O r o)) (h0 : o = none → r = d) (h1 : ∀ x, o = some x → HT prog w hb n A env s₀ S₀ R Rs (Rh x) (O x) rest (.ret d)) : HT prog w hb n A env s₀ S₀ R Rs ρ M (st :: rest) (.ret d) := by
  cases o with
  | none => exact h0 rfl ▸ HT.consRet h
  | some x => exact .cons h (h1 x rfl)
theorem HT.out {M M' : Mx6} {sts : List Stmt} {ρ' ρ'' : Rho} (h : HT prog w hb n A env s₀ S₀ R Rs ρ M sts (.next ρ' M')) (c : Cov ρ' ρ'') : HT prog w hb n A env s₀ S₀ R Rs ρ M sts (.next ρ'' M') := ⟨fun s Q E x hQ => h.run s Q E x fun f s' ⟨h1, h2, h3⟩ => hQ f s' ⟨h1, h2.sub c.sub, h3⟩⟩

noncomputable def detRho (ms : List Nat) (s : Est) : Rho := [("last", .int s.last), ("turn", .int s.turn), ("calls", .list (ms.map lawCallD))]

theorem c_det {T : TopF hb} (W : Tops hb T) : Callable T prog w (n + 1) "_law_determinant" (fun ds d => ∃ ms : List Nat, ms.length ≤ 11 ∧ ds = [.list (ms.map lawCallD)] ∧ d = .int (detOf ms)) := by
  refine W.fn (k := 35) (ps := ["calls"]) (by decide) ⟨rfl, rfl, by decide, by decide, by decide⟩ rfl (fun _ _ vs h => by obtain ⟨a, rfl⟩ := len1 h rfl; kernel_rfl) (fun ds d ⟨_, _, h, _⟩ => by rw [h]; rfl) (fun A L f pm cd ds d ⟨ms, hl, hds, hd⟩ => ?_)
  subst hds; subst hd
  refine EX.rows (EI.range1 T (m := 6) rfl W.range (.cons .int .nil) rfl (by decide)) rfl (.of rfl rfl rfl (by decide)) (fun C => .it) (fun C => rfl) rfl rfl rfl fun s₀ S₀ R Rs => ?_
  refine HT.cons (HS.for_ (EI.list (.name (d := .list (ms.map lawCallD)) rfl)) (HF.inv (f := lawCallD) (fun _ M => Sh M) (fun _ => [("calls", .list (ms.map lawCallD))]) (fun M => M) addNet ms 0 M0 M0_sh fun j M m hj sh => ⟨addNet_sh sh m, _, [("count", natD (cnt m)), ("called", natD (cld m)), ("caller", natD (cal m)), ("calls", .list (ms.map lawCallD))], .ofAC (.tupleT (.cons rfl (.cons rfl (.cons rfl .nil)))) rfl, ?_, .cons rfl .nil⟩)) ?_
  · refine HT.cons (HS.augRC (f := fun a b => a + b) (fun a b t u s Q E h => PyProof.Rows.iadd_int h) sh (cld_lt m) (cal_lt m) (.name (d := natD (cnt m)) rfl) (.name rfl) (.name rfl)) ?_
    exact HT.one (HS.augRC (f := fun a b => a - b) (fun a b t u s Q E h => PyProof.Rows.isub_int h) (sh.set (cld_lt m)) (cal_lt m) (cld_lt m) (.name (d := natD (cnt m)) rfl) (.name rfl) (.name rfl))
  refine HT.cons (HS.assign (d := .int 1) .int rfl (.inl rfl) rfl) (HT.cons (HS.assign (d := .int 1) .int rfl (.inl rfl) rfl) ?_)
  have ok := netM_ok hl
  have fin := foldO_P (step := stepE) EOk (fun k ks s s' h e => h.step e) [0, 1, 2, 3, 4] ⟨netM ms, 1, 1⟩
  have hd : detOf ms = match foldO stepE [0, 1, 2, 3, 4] ⟨netM ms, 1, 1⟩ with | none => 0 | some s => s.turn * mget s.M 5 5 := by
    unfold detOf
    rw [elimR_fold [0, 1, 2, 3, 4] ⟨netM ms, 1, 1⟩]
    cases foldO stepE [0, 1, 2, 3, 4] ⟨netM ms, 1, 1⟩ <;> rfl
  refine HT.consO (o := foldO stepE [0, 1, 2, 3, 4] ⟨netM ms, 1, 1⟩) (Rh := detRho ms) (O := Est.M) (r := .int 0) (HS.for_ (EI.conv (ys := [0, 1, 2, 3, 4].map natD) (EI.range1 T (m := 5) rfl W.range (.cons .int .nil) rfl (by decide)) rfl) (HF.run_ EOk (detRho ms) Est.M stepE (fun k ks s hs => ?_) [0, 1, 2, 3, 4] ⟨netM ms, 1, 1⟩ ok)) ?_ ?_
  rotate_left
  · intro q; rw [hd, q]
  · intro s q
    rw [hd, q]
    have h := fin s ok q
    obtain ⟨b, hb1, hb2, hb3⟩ := h.bd
    exact HT.one (HS.ret (.mul (.name rfl) (EV.rowsAt h.sh (by decide) (by decide) (.int) (.int) (.name rfl)) (mulOkBig (c := b) (Nat.le_trans h.turn Nat.one_le_two_pow) (hb2 5 5) hb1)))
  have hk : k < 5 := hs.ks5 k (.head _)
  have hk6 : k < 6 := by omega
  obtain ⟨b, hb1, hb2, hb3⟩ := hs.bd
  have hb1' : 2 * b + 1 ≤ 1000 := Nat.le_trans (le_growB ks.length (2 * b + 1)) hb1
  have hfm : (foundL s.M k).length ≤ 6 := by
    unfold foundL
    have := List.length_filter_le (fun i => mget s.M i k != 0) ((List.range (6 - k)).map (k + ·))
    rw [List.length_map, List.length_range] at this; omega
  refine ⟨("k", natD k) :: detRho ms s, [("last", .int (mget (pivM s.M k ((foundL s.M k).headD 0)) k k)), ("turn", .int (pivT s.turn k ((foundL s.M k).headD 0))), ("calls", .list (ms.map lawCallD))], .name (.inr ⟨rfl, _, rfl⟩) rfl, ?_, ?_⟩
  · refine HT.cons (HS.assignComp (ρc := [("rows", matD s.M), ("k", natD k)]) (ys := (foundL s.M k).map natD) rfl (EI.conv (EI.range2 T (a := k) (b := 6) (m := 6 - k) rfl W.range (.cons (.name rfl) (.cons .int .nil)) (by omega) (by omega) (by decide)) (ints_from _ _)) (.of rfl rfl rfl (by decide)) (.cons rfl rfl (.inl rfl) (.cons rfl rfl (.inl rfl) .nil)) (fun C => ?_) (by simp; omega) (.inl rfl) rfl (by simp [natD, scalar])) ?_
    · refine CL.conv (CL.fm (f := natD) (g := fun i : Nat => if (mget s.M i k != 0) = true then some (natD i) else none) (fun it acc => turn_one _ _ _ _ _ _ it acc _) ((List.range (6 - k)).map (k + ·)) (fun i hi => ⟨_, .name rfl, sub_new sub_refl rfl, .one (EB.conv (.cmp (EV.rowsAt hs.sh (j := k) (i := i) ?_ hk6 (.name rfl) (.name rfl) (.name rfl)) .int .neInt) ?_), fun v hv => ?_⟩)) (filter_natD _ _)
      · obtain ⟨a, ha, e⟩ := List.mem_map.mp hi
        have := List.mem_range.mp ha; omega
      · by_cases h : (mget s.M i k != 0) = true <;> simp [h]
      · by_cases h : (mget s.M i k != 0) = true
        · rw [if_pos h] at hv; cases hv; exact .name rfl
        · rw [if_neg h] at hv; cases hv
    cases q : foundL s.M k with
    | nil =>
      have e : stepE k s = none := by unfold stepE; rw [q]
      rw [e]
      refine HT.consRet (HS.if_ (b := true) (EB.conv (.cmp (.name rfl) (.list .nil) (.eqData rfl rfl (by decide))) rfl) (fun _ => HT.one (HS.ret .int)) (fun h => nomatch h))
    | cons f r =>
      obtain ⟨hf1, hf2, hf3⟩ := foundL_mem hk6 q
      have e : stepE k s = some ⟨stage (pivM s.M k f) k s.last, pivT s.turn k f, mget (pivM s.M k f) k k⟩ := by unfold stepE; rw [q]
      rw [e]
      refine HT.cons (HS.if_ (b := false) (EB.conv (.cmp (.name rfl) (.list .nil) (.eqData (lay_map (f := natD) (f :: r) fun _ _ => rfl) rfl (Nat.le_trans (Nat.min_le_right _ _) (by decide)))) (by rw [eqv_nil]; rfl)) (fun h => nomatch h) (fun _ => HT.nil)) ?_
      refine HT.cons (HS.if_ (b := f != k) (out := .next [("found", .list ((f :: r).map natD)), ("k", natD k), ("last", .int s.last), ("turn", .int (pivT s.turn k f)), ("calls", .list (ms.map lawCallD))] (pivM s.M k f)) (EB.conv (.cmp (.itemL (d := natD f) (EV.toR (.name rfl)) .int (by decide) (by decide) rfl) (.name rfl) .neInt) ?_) (fun h => ?_) (fun h => ?_)) ?_
      · show ((((f : Nat) : Int)) != ((k : Nat) : Int)) = _
        by_cases h : f = k
        · simp [h]
        · rw [bne_iff_ne.mpr h, bne_iff_ne.mpr (by omega)]
      · have hM : pivM s.M k f = mswap s.M k f := by unfold pivM; rw [if_pos h]
        have ht : pivT s.turn k f = -s.turn := by unfold pivT; rw [if_pos h]
        rw [hM, ht]
        refine HT.out (ρ' := [("turn", .int (-s.turn)), ("found", .list ((f :: r).map natD)), ("k", natD k), ("last", .int s.last), ("turn", .int s.turn), ("calls", .list (ms.map lawCallD))]) ?_ (.cons rfl (.cons rfl (.cons rfl (.cons rfl (.cons rfl .nil)))))
        refine HT.cons (HS.swap (i := k) (j := f) hs.sh hk6 hf2 ?_ ?_ ?_ ?_) ?_
        · exact .name rfl
        · exact .itemL (d := natD f) (EV.toR (.name (d := .list ((f :: r).map natD)) rfl)) .int (by decide) (by decide) rfl
        · exact .name rfl
        · exact .itemL (d := natD f) (EV.toR (.name (d := .list ((f :: r).map natD)) rfl)) .int (by decide) (by decide) rfl
        · exact HT.one (HS.assign (.neg (.name rfl)) rfl (.inl rfl) rfl)
      · have h' : (f != k) = false := h
        have hM : pivM s.M k f = s.M := by unfold pivM; rw [h']; rfl
        have ht : pivT s.turn k f = s.turn := by unfold pivT; rw [h']; rfl
        rw [hM, ht]
        exact HT.out HT.nil (.cons rfl (.cons rfl (.cons rfl (.cons rfl (.cons rfl .nil)))))
      have sh := pivM_sh hs.sh hk6 hf2
      have hb' := pivM_bnd hb2 hs.sh hk6 hf2
      have hk1 : ∀ i ∈ after k, k < i ∧ i < 6 := fun i hi => (after_mem hk6).mp hi
      have hcv : ∀ y : PyData, Cov [("i", y), ("found", .list ((f :: r).map natD)), ("k", natD k), ("last", .int s.last), ("turn", .int (pivT s.turn k f)), ("calls", .list (ms.map lawCallD))] [("found", .list ((f :: r).map natD)), ("k", natD k), ("last", .int s.last), ("turn", .int (pivT s.turn k f)), ("calls", .list (ms.map lawCallD))] := fun y => .cons rfl (.cons rfl (.cons rfl (.cons rfl (.cons rfl .nil))))
      refine HT.cons (HS.for_ (EI.conv (EI.range2 T (a := k + 1) (b := 6) (m := 5 - k) rfl W.range (.cons (.add (a := k) (b := 1) (.name rfl) .int) (.cons .int .nil)) (by omega) (by omega) (by decide)) (ints_after k)) (HF.inv (f := natD) (fun j M' => M' = blockN k s.last (after k) (pivM s.M k f) ((after k).take j)) (fun _ => [("found", .list ((f :: r).map natD)), ("k", natD k), ("last", .int s.last), ("turn", .int (pivT s.turn k f)), ("calls", .list (ms.map lawCallD))]) (fun M => M) (fun M i => lineN k s.last i M (after k)) (after k) 0 (pivM s.M k f) rfl (fun qi Mi i hqi hMi => ⟨?_, _, [("i", natD i), ("found", .list ((f :: r).map natD)), ("k", natD k), ("last", .int s.last), ("turn", .int (pivT s.turn k f)), ("calls", .list (ms.map lawCallD))], .name (.inl rfl) rfl, ?_, hcv _⟩))) ?_
      · rw [Nat.zero_add] at hMi ⊢
        rw [blockN_snoc hqi, ← hMi]
      · have hi := hk1 i (List.mem_of_getElem? hqi)
        have hi6 : i < 6 := hi.2
        rw [Nat.zero_add] at hMi
        have hpt : ∀ a ∈ (after k).take qi, a < 6 ∧ k ≠ a := fun a ha => by have := hk1 a (List.mem_of_mem_take ha); omega
        have shi : Sh Mi := hMi ▸ blockN_sh _ (fun a ha => (hpt a ha).1) sh
        refine HT.one (HS.for_ (EI.conv (EI.range2 T (a := k + 1) (b := 6) (m := 5 - k) rfl W.range (.cons (.add (a := k) (b := 1) (.name rfl) .int) (.cons .int .nil)) (by omega) (by omega) (by decide)) (ints_after k)) (HF.inv (f := natD) (fun j M' => M' = lineN k s.last i Mi ((after k).take j)) (fun _ => [("i", natD i), ("found", .list ((f :: r).map natD)), ("k", natD k), ("last", .int s.last), ("turn", .int (pivT s.turn k f)), ("calls", .list (ms.map lawCallD))]) (fun M => M) (fun M j => mset M i j (cellN M k s.last i j)) (after k) 0 Mi rfl (fun qj M' j hqj hM' => ⟨?_, _, [("j", natD j), ("i", natD i), ("found", .list ((f :: r).map natD)), ("k", natD k), ("last", .int s.last), ("turn", .int (pivT s.turn k f)), ("calls", .list (ms.map lawCallD))], .name (.inl rfl) rfl, ?_, .cons rfl (.cons rfl (.cons rfl (.cons rfl (.cons rfl (.cons rfl .nil)))))⟩)))
        · rw [Nat.zero_add] at hM' ⊢
          rw [lineN_snoc hqj, ← hM']
        · have hj := hk1 j (List.mem_of_getElem? hqj)
          have hj6 : j < 6 := hj.2
          rw [Nat.zero_add] at hM'
          have sh' : Sh M' := hM' ▸ lineN_sh hi6 _ shi
          have bd : Bnd M' (2 * b + 1) := by
            rw [hM', hMi]
            exact part_bnd hb' sh hk6 (after_nd k) (fun a ha => by have := hk1 a ha; omega) ((after_nd k).sublist (List.take_sublist _ _)) hpt hi6 (by omega) ((after_nd k).sublist (List.take_sublist _ _)) (fun a ha => by have := hk1 a (List.mem_of_mem_take ha); omega) (take_notin (after_nd k) hqi)
          have hlast : s.last ≠ 0 := hs.last
          exact HT.one (HS.setRC (v := cellN M' k s.last i j) sh' hi6 hj6 (.fdiv (.sub (.mul (EV.rowsAt sh' hi6 hj6 (.name rfl) (.name rfl) (.name rfl)) (EV.rowsAt sh' hk6 hk6 (.name rfl) (.name rfl) (.name rfl)) (mulOkBig (bd _ _) (bd _ _) hb1')) (.mul (EV.rowsAt sh' hi6 hk6 (.name rfl) (.name rfl) (.name rfl)) (EV.rowsAt sh' hk6 hj6 (.name rfl) (.name rfl) (.name rfl)) (mulOkBig (bd _ _) (bd _ _) hb1'))) (.name rfl) hlast (ndivBig hb3 (by omega))) (.name rfl) (.name rfl))
      · have hkk : mget (stage (pivM s.M k f) k s.last) k k = mget (pivM s.M k f) k k := mget_row (stage_row hk6)
        refine HT.out (ρ' := [("last", .int (mget (pivM s.M k f) k k)), ("found", .list ((f :: r).map natD)), ("k", natD k), ("last", .int s.last), ("turn", .int (pivT s.turn k f)), ("calls", .list (ms.map lawCallD))]) ?_ (.cons rfl (.cons rfl (.cons rfl .nil)))
        rw [← hkk]
        exact HT.one (HS.assign (EV.rowsAt (stage_sh sh hk6) hk6 hk6 (.name rfl) (.name rfl) (.name rfl)) rfl (.inl rfl) rfl)
  · intro s' e
    refine ⟨?_, hs.step e⟩
    unfold stepE at e
    cases q : foundL s.M k with
    | nil => rw [q] at e; cases e
    | cons f r =>
      rw [q] at e
      cases e
      exact .cons rfl (.cons rfl (.cons rfl .nil))
end
end Mine

namespace Mine
open PySem PySem.Calls PyProof.Rows

noncomputable def charD (p : Nat × Nat) : PyData := .tuple [.int p.2, .str ⟨#[p.1]⟩]
/-- what enumerate gives of a string -/
noncomputable def charsD (x : Str) : List PyData := x.cps.toList.zipIdx.map charD
theorem charsD_get {x : Str} {i : Nat} {d : PyData} (h : (charsD x)[i]? = some d) : ∃ c, x.cps[i]? = some c ∧ d = .tuple [.int i, .str ⟨#[c]⟩] := by
  unfold charsD charD at h
  rw [List.getElem?_map, List.getElem?_zipIdx] at h
  cases hx : x.cps.toList[i]? with
  | none => rw [hx] at h; cases h
  | some c => rw [hx] at h; exact ⟨c, by simpa using hx, by simpa using h.symm⟩
theorem charsD_len (x : Str) : (charsD x).length = x.cps.size := by simp [charsD]

section
variable {prog : Program} {w : World} {hb : Heap} {n : Nat} {A : Around} {env : Env} {ρ : Rho} {ω : Omega} {s₀ s : Shared} {S₀ Wt : ASet}

theorem Itr.enumS {ts : List Expr} {k : Nat} {tp : Pos} {S : ASet} {x : Str} {t : Tok} {e it : Addr} (hh : A.handled = none) (hei : e ≠ it) (he : ¬ S e) (hi : ¬ S it) :
    Itr prog w A (.Tuple ts k tp) S e (charsD x) (fun b => b = e ∨ b = it) (fun i s => (∃ old, IsEnum s.heap e it i old) ∧ s.heap.IsStrIter it "str_ascii_iterator" x t i) where
  frame := fun i s s' st g => ⟨let ⟨old, q⟩ := st.1; ⟨old, g.kp _ _ he q⟩, let ⟨o, ho, r⟩ := st.2; ⟨o, g.kp _ _ hi ho, r⟩⟩
  nc := fun i s b o st hb' q hc => by
    rcases hb' with rfl | rfl
    · obtain ⟨old, q'⟩ := st.1
      rw [q'] at q; cases q
      exact notCont rfl (by decide) hc
    · obtain ⟨o', q', hc', _⟩ := st.2
      rw [q'] at q; cases q
      exact notCont hc' (by decide) hc
  item := fun i s d Q E st hd hQ => by
    obtain ⟨⟨old, qe⟩, qi⟩ := st
    obtain ⟨c, hx, rfl⟩ := charsD_get hd
    have D := Draws.strAscii (prog := prog) (w := w) (A := A.in1) hh it x t
    have hlt : i < x.cps.size := (Array.getElem?_eq_some_iff.mp hx).1
    refine wpAny_pyNext_enum_itemD D qe qi hlt hei (by simpa using hei) fun v h' tk hP ho hit' hT hsz hk => ?_
    obtain ⟨c', u, hc', rfl⟩ := hP
    rw [hx] at hc'; cases hc'
    have hTe : s.heap.objs.size ≠ e := Nat.ne_of_gt (Heap.lt_size qe)
    have hTi : s.heap.objs.size ≠ it := by obtain ⟨_, q, _⟩ := qi; exact Nat.ne_of_gt (Heap.lt_size q)
    refine wpAny_letOwnedTupleGo_enum (s := { s with heap := h', toks := tk + 1 }) ho fun h₂ he₂ hs₂ => ?_
    have kp : ∀ b o, ¬ (b = e ∨ b = it) → s.heap.get? b = some o → h₂.get? b = some o := fun b o hb' q => (hs₂.2 b fun z => hb' (.inl z)).trans (hk b o (fun z => hb' (.inl z)) (fun z => hb' (.inr z)) q)
    have gw : Gw (fun b => b = e ∨ b = it) s { s with heap := h₂, toks := tk + 1 } := Gw.heap kp
    have hit₂ : h₂.IsStrIter it "str_ascii_iterator" x t (i + 1) := let ⟨o, q, r⟩ := hit'; ⟨o, (hs₂.2 it (Ne.symm hei)).trans q, r⟩
    refine hQ _ _ (gw.go fun b o hb' _ => ?_) ⟨⟨_, by simpa using he₂⟩, hit₂⟩ fun T hT' hTb => ?_
    · rcases hb' with rfl | rfl
      · exact ⟨_, he₂⟩
      · obtain ⟨o, q, _⟩ := hit₂; exact ⟨o, q⟩
    · refine .tupleIs (vs := [.int i tk, .str ⟨#[c]⟩ u]) (n := 0) (fun q => ?_) ((hs₂.2 _ hTe).trans hT) (.cons (.int _ _) (.cons (.str _ _) .nil))
      obtain ⟨o, q'⟩ := hTb _ q
      rw [fresh_size] at q'; cases q'
  done := fun s Q E st hQ => by
    obtain ⟨⟨old, qe⟩, qi⟩ := st
    have D := Draws.strAscii (prog := prog) (w := w) (A := A.in1) hh it x t
    rw [charsD_len] at qe qi
    refine wpAny_pyNext_enum_endD D qe qi fun h' hk => hQ _ (Gw.heap (tk := s.toks) fun b o hb' q => hk b o (fun z => hb' (.inr z)) q)
  self := fun i s Q E st h => by
    obtain ⟨⟨old, qe⟩, _⟩ := st
    exact wpAny_pyIter_enum qe h

theorem EI.enumS (T : TopF hb) {ts : List Expr} {k : Nat} {tp p pos : Pos} {e₁ : Expr} {x : Str} (hk : env.kindOf "enumerate" = some .globalImplicit) (hg : Glob T "enumerate" (.type "enumerate")) (h1 : EVs prog w hb n A env ρ ω [e₁] [.str x]) (ha : x.cps.all (· < 128) = true)
    (he : starEach [e₁] env = (false, eval e₁ env) :: starEach [] env := by exact star_cons rfl) :
    EI prog w hb n A env ρ ω (.Tuple ts k tp) (.Call (.Name "enumerate" p) [e₁] [] pos) (charsD x) := .mk fun s₀ S₀ Wt s Q E x' hQ => by
  show wpAny _ A (eval (.Name "enumerate" p) env >>= fun fv => callWith pos fv [] (backTo pos (starEach [e₁] env)) (backToKw pos (keywordEach [] env))) _ E s
  refine wpAny_bind (glob_name T x' hk hg ?_ (by decide))
  refine PyProof.Rows.callWith_type1 ?_ he (by rfl)
  have hs := h1.run s₀ S₀ Wt s pos (fun vs s₁ => wpAny (model prog w) A (call (.type "enumerate") vs) (fun x s₂ => wpAny (model prog w) A (pyIter x) Q E s₂) E s₁) E x' fun vs s₁ g r => ?_
  · exact hs
  · obtain ⟨hl, hr⟩ := r
    obtain ⟨u, rfl⟩ := lenA1 hl
    obtain ⟨t, rfl⟩ := (hr 0 u _ rfl rfl).strOf
    refine call_enumerate_str fun h' he' hit' hsz hk' => ?_
    refine wpAny_pyIter_enum (s := { s₁ with heap := h' }) he' ?_
    have g₂ : Go0 s₁ { s₁ with heap := h' } := Go.heap0 (tk := s₁.toks) hk'
    have hty : strIterType x = "str_ascii_iterator" := by unfold strIterType; rw [ha]; rfl
    rw [hty] at hit'
    have no : ∀ b, s₁.heap.objs.size ≤ b → s₁.heap.get? b = none := fun b hb' => by
      cases e : s₁.heap.get? b with
      | none => rfl
      | some o => exact absurd (Heap.lt_size e) (Nat.not_lt.mpr hb')
    have fr : ∀ b, s₁.heap.objs.size ≤ b → s.heap.get? b = none := fun b hb' => by
      cases e : s.heap.get? b with
      | none => rfl
      | some o => have := g.k0 _ _ e; rw [no b hb'] at this; cases this
    have nsx : ∀ b, s₁.heap.objs.size ≤ b → ¬ Sx S₀ Wt env ω b := fun b hb' q => by obtain ⟨o, e⟩ := (x'.keep g).bd q; rw [no b hb'] at e; cases e
    have it := Itr.enumS (prog := prog) (w := w) (A := A) (ts := ts) (k := k) (tp := tp) (S := Shut S₀ Wt env ω { s₁ with heap := h' }) (x := x) (t := t) (e := s₁.heap.objs.size + 1) (it := s₁.heap.objs.size) x'.room.handled (Nat.succ_ne_self _)
      (Shut.not (s' := { s₁ with heap := h' }) (nsx _ (Nat.le_succ _)) he') (let ⟨o, q, _⟩ := hit'; Shut.not (s' := { s₁ with heap := h' }) (nsx _ (Nat.le_refl _)) q)
    refine hQ _ _ _ _ _ (g.tr g₂) it (Shut.begun (fun b hb' => ?_) fun b hb' => hb'.elim (fun q => ⟨_, q ▸ he'⟩) fun q => let ⟨o, e, _⟩ := hit'; ⟨o, q ▸ e⟩) ⟨⟨_, he'⟩, hit'⟩
    rcases hb' with rfl | rfl
    · exact fr _ (Nat.le_succ _)
    · exact fr _ (Nat.le_refl _)
end
end Mine

namespace Mine
open PySem PySem.Calls PyProof.Rows

section
variable {M : Model} {A : Around} {R : GenEnd} {Y : Protocol} {n : Nat} {s₀ : Shared} {c : Code} {fs : List Frame} {s : Shared} {env : Env}
theorem seg_bindw {α β : Type} {m : Sem α} {f : α → Sem β} {K : β → Sem Fin} {H : Value → Sem Fin} {gd : Bool → Bool} {lv : List Value → List Value}
    (h : wpAny M (A.over c fs) m (fun a s' => Seg M A R Y n s₀ c ((f a).wrap K H gd lv) fs s') (fun x s' => Seg M A R Y n s₀ c (H x) fs s') s) : Seg M A R Y n s₀ c ((m >>= f).wrap K H gd lv) fs s := by
  rw [Sem.bind_eq_wrap', Sem.wrap_wrap]; exact seg_wrap h

/-- the frame that waits for a for's loop -/
noncomputable def loopFrame (env : Env) (K : Flow → Sem Fin) (H : Value → Sem Fin) (gd : Bool → Bool) (lv : List Value → List Value) (c : Code) (p : Pos) : Frame :=
  .ret (fun r => ((match r with | .ok f => (.pure f : Sem Flow) | .error e => .raise e).onRaise fun (x : Value) => do
        if (← field x 1) == Value.none then unsupported "frame.own-activation:exception-without-traceback"
        setFlight x env.frame).wrap K H gd lv) none (gd false) (lv []) c p []
theorem seg_For {t iter : Expr} {body orelse : List Stmt} {pos : Pos} {K : Flow → Sem Fin} {H : Value → Sem Fin} {gd : Bool → Bool} {lv : List Value → List Value}
    (h : wpAny M (A.over c fs) (eval iter env) (fun x s₁ => wpAny M (A.over c fs) (pyIter x) (fun it s₂ => ∀ p, Seg M A R Y n s₀ (.forLoop t it body orelse env) (M.den (.forLoop t it body orelse env)) (loopFrame env K H gd lv c p :: fs) s₂) (fun x s' => Seg M A R Y n s₀ c (H x) fs s') s₁) (fun x s' => Seg M A R Y n s₀ c (H x) fs s') s)
    (hs : ∀ x, foldedSetIterable iter env x = pure x := by intro _; rfl) :
    Seg M A R Y n s₀ c ((exec (.For t iter body orelse pos) env).wrap K H gd lv) fs s := by
  rw [exec_For]
  refine seg_bindw (wpAny_standAt ?_)
  refine seg_bindw (wpAny_mono h (fun x s₁ h₁ => ?_) fun _ _ e => e)
  refine seg_bindw (wpAny_of_eq (hs x) ?_)
  refine seg_bindw (wpAny_standAt ?_)
  refine seg_bindw (wpAny_holding (wpAny_mono h₁ (fun it s₂ h₂ => ?_) fun _ _ e => e))
  exact seg_call h₂
end

section
variable {prog : Program} {w : World} {A : Around} {R : GenEnd} {Y : Protocol} {n : Nat} {s₀ : Shared} {fs : List Frame} {s : Shared} {env : Env}
noncomputable def loopK (t : Expr) (it : Value) (body : List Stmt) (env : Env) : Flow → Sem Fin := fun f => match f with
  | .next | .cont => .pure (.again (.forLoop t it body [] env))
  | .brk => .pure (.done .next)
  | .ret v => .pure (.done (.ret v))
noncomputable def loopH (env : Env) : Value → Sem Fin := fun e => (do noteFrame e env; theTreesLotGoes e : Sem Unit).wrap (fun _ => .raise e) .raise id id

theorem seg_forLoop {t : Expr} {it : Value} {body : List Stmt}
    (h : wpAny (model prog w) (A.over (.forLoop t it body [] env) fs) (pyNext it) (fun r s₁ => match r with
      | none => Seg (model prog w) A R Y n s₀ (.block [] env) ((model prog w).den (.block [] env)) fs s₁
      | some v => wpAny (model prog w) (A.over (.forLoop t it body [] env) fs) (letOwnedTupleGo t it v) (fun _ s₁' =>
          wpAny (model prog w) (A.over (.forLoop t it body [] env) fs) (assign t env v) (fun _ s₂ => Seg (model prog w) A R Y n s₀ (.forLoop t it body [] env) ((execs body env).wrap (loopK t it body env) (loopH env) id id) fs s₂)
            (fun x s' => Seg (model prog w) A R Y n s₀ (.forLoop t it body [] env) (loopH env x) fs s') s₁') (fun x s' => Seg (model prog w) A R Y n s₀ (.forLoop t it body [] env) (loopH env x) fs s') s₁)
      (fun x s' => Seg (model prog w) A R Y n s₀ (.forLoop t it body [] env) (loopH env x) fs s') s) :
    Seg (model prog w) A R Y n s₀ (.forLoop t it body [] env) ((model prog w).den (.forLoop t it body [] env)) fs s := by
  show Seg _ A R Y n s₀ _ ((forTurn t it body [] env).onRaise (fun x => do noteFrame x env; theTreesLotGoes x)) fs s
  unfold forTurn
  rw [Sem.onRaise_eq_wrap]
  have hH : (fun e => (do noteFrame e env; theTreesLotGoes e : Sem Unit).bind fun _ => (.raise e : Sem Fin)) = loopH env := by
    funext e; unfold loopH; rw [Sem.bind_eq_wrap]
  rw [hH]
  refine seg_bindw (wpAny_standAt ?_)
  refine seg_bindw (wpAny_onRaise (wpAny_mono h (fun r s₁ h₁ => ?_) fun _ _ h' => wpAny_standAt h'))
  cases r with
  | none => exact seg_again rfl h₁
  | some v =>
    refine seg_bindw (wpAny_mono h₁ (fun _ s₁' h₁' => ?_) fun _ _ e => e)
    refine seg_bindw (wpAny_mono h₁' (fun _ s₂ h₂ => ?_) fun _ _ e => e)
    rw [Sem.bind_eq_wrap', Sem.wrap_wrap]
    refine Eq.mpr (congrArg (fun z => Seg (model prog w) A R Y n s₀ (.forLoop t it body [] env) z fs s₂) (Sem.wrap_congr (execs body env) (K' := loopK t it body env) (H' := loopH env) _ _ (fun f => ?_) (fun e => ?_))) h₂
    · cases f <;> rfl
    · rfl

theorem seg_block_nil (h : Seg (model prog w) A R Y n s₀ (.block [] env) (.pure (.done .next)) fs s) : Seg (model prog w) A R Y n s₀ (.block [] env) ((model prog w).den (.block [] env)) fs s := h
end
end Mine

namespace Mine
open PySem PySem.Calls PyProof.Rows

noncomputable def IterObj (o : Obj) : Prop := o.cls = .type "enumerate" ∨ o.cls = .type "str_ascii_iterator"
/-- a generator's own objects -/
noncomputable def WG (base Lg : Addr) (s : Shared) : ASet := fun b => b = Lg ∨ (base ≤ b ∧ ∃ o, s.heap.get? b = some o ∧ IterObj o)
structure KeepG (hb : Heap) (base Lg : Addr) (s s'' : Shared) : Prop where
  kb : ∀ b o, hb.get? b = some o → s''.heap.get? b = some o
  kw : ∀ b o, WG base Lg s b → s.heap.get? b = some o → s''.heap.get? b = some o
noncomputable def YG (hb : Heap) (base Lg : Addr) (xs : List PyData) : Protocol := fun n s₀ v s kap =>
  (∃ d, xs[xs.length - 1 - n]? = some d ∧ n < xs.length ∧ ∀ T : ASet, (∀ b, T b → ∃ o, s₀.heap.get? b = some o) → Rep T s.heap v d) ∧ Go (WG base Lg s₀) s₀ s ∧ ∀ s'', KeepG hb base Lg s s'' → kap (.send .none) s''
noncomputable def PG (base Lg : Addr) : Nat → Shared → Shared → Prop := fun n s₀ s => n = 0 ∧ Gw (WG base Lg s₀) s₀ s
noncomputable def RG (base Lg : Addr) : GenEnd := fun n s₀ r s => r = .ok (.ret .none) ∧ PG base Lg n s₀ s

section
variable {prog : Program} {w : World} {hb : Heap} {n : Nat} {A : Around} {env : Env} {ρ ρ' : Rho} {ω : Omega} {s₀ s s' : Shared} {S₀ Wt : ASet}

theorem enum_eval (T : TopF hb) {p pos : Pos} {e₁ : Expr} {x : Str} {Q : Value → Shared → Prop} {E : Value → Shared → Prop} (x' : Cx hb n A env s₀ S₀ Wt ρ ω s) (hk : env.kindOf "enumerate" = some .globalImplicit) (hg : Glob T "enumerate" (.type "enumerate")) (h1 : EVs prog w hb n A env ρ ω [e₁] [.str x]) (ha : x.cps.all (· < 128) = true)
    (hQ : ∀ s' e it t, Go0 s s' → e ≠ it → s.heap.get? e = none → s.heap.get? it = none → (∀ b o, s.heap.get? b = some o → b < e ∧ b < it) → IsEnum s'.heap e it ((0 : Nat) : Int) .none → s'.heap.IsStrIter it "str_ascii_iterator" x t 0 → Q (.ref e) s')
    (he : starEach [e₁] env = (false, eval e₁ env) :: starEach [] env := by exact star_cons rfl) :
    wpAny (model prog w) A (eval (.Call (.Name "enumerate" p) [e₁] [] pos) env) (fun x s₁ => wpAny (model prog w) A (pyIter x) Q E s₁) E s := by
  show wpAny _ A (eval (.Name "enumerate" p) env >>= fun fv => callWith pos fv [] (backTo pos (starEach [e₁] env)) (backToKw pos (keywordEach [] env))) _ E s
  refine wpAny_bind (glob_name T x' hk hg ?_ (by decide))
  refine PyProof.Rows.callWith_type1 ?_ he (by rfl)
  have hs := h1.run s₀ S₀ Wt s pos (fun vs s₁ => wpAny (model prog w) A (call (.type "enumerate") vs) (fun x s₂ => wpAny (model prog w) A (pyIter x) Q E s₂) E s₁) E x' fun vs s₁ g r => ?_
  · exact hs
  · obtain ⟨hl, hr⟩ := r
    obtain ⟨u, rfl⟩ := lenA1 hl
    obtain ⟨t, rfl⟩ := (hr 0 u _ rfl rfl).strOf
    refine call_enumerate_str fun h' he' hit' hsz hk' => ?_
    refine wpAny_pyIter_enum (s := { s₁ with heap := h' }) he' ?_
    have g₂ : Go0 s₁ { s₁ with heap := h' } := Go.heap0 (tk := s₁.toks) hk'
    have hty : strIterType x = "str_ascii_iterator" := by unfold strIterType; rw [ha]; rfl
    rw [hty] at hit'
    have no : ∀ b, s₁.heap.objs.size ≤ b → s₁.heap.get? b = none := fun b hb' => by
      cases e : s₁.heap.get? b with
      | none => rfl
      | some o => exact absurd (Heap.lt_size e) (Nat.not_lt.mpr hb')
    have fr : ∀ b, s₁.heap.objs.size ≤ b → s.heap.get? b = none := fun b hb' => by
      cases e : s.heap.get? b with
      | none => rfl
      | some o => have := g.k0 _ _ e; rw [no b hb'] at this; cases this
    exact hQ _ _ _ t (g.tr g₂) (Nat.succ_ne_self _) (fr _ (Nat.le_succ _)) (fr _ (Nat.le_refl _)) (fun b o q => ⟨Nat.lt_succ_of_lt (Heap.lt_size (g.k0 _ _ q)), Heap.lt_size (g.k0 _ _ q)⟩) he' hit'

theorem Rep.scalarH {S T : ASet} {h h' : Heap} {v : Value} {d : PyData} (r : Rep S h v d) (hd : Mine.scalar d = true) : Rep T h' v d := by
  cases r with
  | none => exact .none
  | bool b => exact .bool b
  | int i t => exact .int i t
  | str x t => exact .str x t
  | list => exact nomatch hd
  | tuple => exact nomatch hd
  | dict => exact nomatch hd

/-- a generator's activation, of scalars alone -/
structure GI (hb : Heap) (n : Nat) (A : Around) (env : Env) (base Lg : Addr) (s₀ : Shared) (ρ : Rho) (s : Shared) : Prop where
  cx : Cx hb n A env { s₀ with heap := hb } (fun _ => False) (fun _ => False) ρ [] s
  go : Go (WG base Lg s₀) s₀ s
  lg : env.locals = Lg
  cells : env.cells = []
  kb : ∀ b o, hb.get? b = some o → s₀.heap.get? b = some o
  scal : ∀ p ∈ ρ, scalar p.2 = true
  ex : ∃ o, s₀.heap.get? Lg = some o

/-- the same, all that stands being shut out -/
theorem GI.wide {base Lg : Addr} (x : GI hb n A env base Lg s₀ ρ s) : Cx hb n A env { s₀ with heap := hb } (fun b => ∃ o, hb.get? b = some o) (fun b => (∃ o, s₀.heap.get? b = some o) ∧ hb.get? b = none) ρ [] s :=
  { x.cx with
    s0 := fun b q => q
    wt := fun b q => ⟨let ⟨o, e⟩ := q.1; x.go.ex b o e, q.2⟩
    loc := fun y d e => let ⟨v, a, r⟩ := x.cx.loc y d e; ⟨v, a, r.scalar (x.scal (y, d) (PySem.mem_of_lookup e))⟩
    own := fun p hp => nomatch hp }

/-- the activation wakes again at s'' -/
theorem GI.wake {base Lg : Addr} {s'' : Shared} {A' : Around} (x : GI hb n A env base Lg s₀ ρ s) (k : KeepG hb base Lg s s'') (hA : Room n A') : GI hb n A' env base Lg s'' ρ s'' := by
  have hl : ∃ o, s.heap.get? env.locals = some o := let ⟨m, o, _, _, e, _⟩ := x.cx.ns; ⟨o, e⟩
  have kl : ∀ o, s.heap.get? env.locals = some o → s''.heap.get? env.locals = some o := fun o e => k.kw _ o (.inl x.lg) e
  refine ⟨⟨fun b o e => e, ⟨fun b o _ e => k.kb b o e, fun b o e => ⟨o, k.kb b o e⟩, fun _ _ e => e, id, rfl, rfl⟩, hA, x.cx.kind, x.cx.glob, x.cx.blt, (fun b q => q.elim), (fun b q => q.elim), let ⟨m, h⟩ := x.cx.ns; ⟨m, h.at' kl⟩, x.cx.lnew, fun y c hc => (by rw [x.cells] at hc; cases hc), x.cx.apart, fun y d e => ?_, (fun p hp => nomatch hp), List.nodup_nil⟩, .refl, x.lg, x.cells, k.kb, x.scal, let ⟨o, e⟩ := hl; ⟨o, x.lg ▸ kl o e⟩⟩
  obtain ⟨v, a, r⟩ := x.cx.loc y d e
  refine ⟨v, ?_, r.scalarH (x.scal (y, d) (PySem.mem_of_lookup e))⟩
  rcases a with ⟨hk, m, hn, hm⟩ | ⟨hk, c, hc, _⟩
  · exact .inl ⟨hk, m, hn.at' kl, hm⟩
  · rw [x.cells] at hc; cases hc

theorem Room.overF {body : List Stmt} {env' : Env} (r : Room (n + 1) A) : Room n (A.over (.func body env') []) :=
  ⟨r.handled, by have := r.depth; show A.depth + 0 + 1 + n + 2 < _; omega, by have := r.units; show A.units + 0 + 3 + 8 * n + 200 < _; omega⟩
theorem Room.overL {t : Expr} {it : Value} {body b2 : List Stmt} {env' e2 : Env} {K : Flow → Sem Fin} {H : Value → Sem Fin} {gd : Bool → Bool} {lv : List Value → List Value} {p : Pos} (r : Room (n + 1) A) : Room n (A.over (.forLoop t it body [] env') [loopFrame e2 K H gd lv (.func b2 e2) p]) :=
  ⟨r.handled, by have := r.depth; show A.depth + 1 + 0 + n + 2 < _; omega, by have := r.units; show A.units + 3 + 0 + 8 * n + 200 < _; omega⟩
end
end Mine

namespace Mine
open PySem PySem.Calls PyProof.Rows

section
variable {M : Model} {A : Around} {R : GenEnd} {Y : Protocol} {n : Nat} {s₀ : Shared} {c : Code} {fs : List Frame} {s : Shared} {env : Env}
theorem seg_If {t : Expr} {body orelse : List Stmt} {pos : Pos} {K : Flow → Sem Fin} {H : Value → Sem Fin} {gd : Bool → Bool} {lv : List Value → List Value}
    (h : wpAny M (A.over c fs) (isTrue t env (eval t env)) (fun b s' => Seg M A R Y n s₀ c ((if b = true then execs body env else execs orelse env).wrap K H gd lv) fs s') (fun x s' => Seg M A R Y n s₀ c (H x) fs s') s) :
    Seg M A R Y n s₀ c ((exec (.If t body orelse pos) env).wrap K H gd lv) fs s := by
  rw [exec_If]
  exact seg_bindw (wpAny_standAt (seg_bindw h))
end

section
variable {prog : Program} {w : World} {hb : Heap} {n : Nat} {A A' : Around} {env : Env} {ρ ρ' : Rho} {ω : Omega} {s₀ s s' : Shared} {base Lg : Addr}

theorem GI.room (x : GI hb n A env base Lg s₀ ρ s) (r : Room n A') : GI hb n A' env base Lg s₀ ρ s := { x with cx := { x.cx with room := r } }
theorem GI.keep (x : GI hb n A env base Lg s₀ ρ s) (g : Go0 s s') : GI hb n A env base Lg s₀ ρ s' := { x with cx := x.cx.keep g, go := x.go.tr (g.mono fun _ q => q.elim) }
theorem GI.sub (x : GI hb n A env base Lg s₀ ρ s) (h : ∀ y d, ρ'.lookup y = some d → ρ.lookup y = some d) (hs : ∀ p ∈ ρ', scalar p.2 = true) : GI hb n A env base Lg s₀ ρ' s := { x with cx := x.cx.sub h, scal := hs }
theorem GI.next (x : GI hb n A env base Lg s₀ ρ s) (y : Cx hb n A env { s₀ with heap := hb } (fun _ => False) (fun _ => False) ρ' [] s') (g : Go (Mx env []) s s') (hs : ∀ p ∈ ρ', scalar p.2 = true) : GI hb n A env base Lg s₀ ρ' s' :=
  { x with cx := y, scal := hs, go := x.go.tr (g.mono fun b q => by
      rcases q with q | ⟨z, q⟩ | ⟨p, hp, _⟩
      · exact .inl (q.trans x.lg)
      · rw [x.cells] at q; cases q
      · cases hp) }
theorem GI.iterW {e it : Addr} {k : Nat} {old : Value} {x : Str} {t : Tok} (y : GI hb n A env base Lg s₀ ρ s) (he : IsEnum s.heap e it k old) (hi : s.heap.IsStrIter it "str_ascii_iterator" x t k) (h1 : base ≤ e) (h2 : base ≤ it) (hbn : hb.get? e = none ∧ hb.get? it = none) (g : Gw (fun b => b = e ∨ b = it) s s') (hle : e ≠ env.locals ∧ it ≠ env.locals) :
    Cx hb n A env { s₀ with heap := hb } (fun _ => False) (fun _ => False) ρ [] s' ∧ Gw (WG base Lg s₀) s₀ s' := by
  have ap : Apart { s₀ with heap := hb } env (fun _ => False) (fun b => b = e ∨ b = it) := ⟨fun b _ q => q, fun b q => q.elim (fun q => q ▸ hbn.1) fun q => q ▸ hbn.2, fun b q => q.elim (fun q => q ▸ hle.1) fun q => q ▸ hle.2, fun b q z hz => by rw [y.cells] at hz; cases hz⟩
  have nc : ∀ b o, (b = e ∨ b = it) → s.heap.get? b = some o → ¬ IsCont o := fun b o hb' q hc => by
    rcases hb' with rfl | rfl
    · rw [he] at q; cases q
      exact notCont rfl (by decide) hc
    · obtain ⟨o', q', hc', _⟩ := hi
      rw [q'] at q; cases q
      exact notCont hc' (by decide) hc
  refine ⟨y.cx.turn g ap nc, fun b o hw q => ?_, fun i gs q => g.gens i gs (y.go.gens i gs q), fun q => g.bare (y.go.bare q), g.drawn.trans y.go.drawn, g.os.trans y.go.os⟩
  have q' := y.go.kp b o hw q
  refine g.kp b o (fun z => hw ?_) q'
  rcases z with rfl | rfl
  · rw [he] at q'
    exact .inr ⟨h1, o, q, by cases q'; exact .inl rfl⟩
  · obtain ⟨o', e', hc, _⟩ := hi
    rw [e'] at q'; cases q'
    exact .inr ⟨h2, _, q, .inr hc⟩
theorem GI.iter {e it : Addr} {k : Nat} {old : Value} {x : Str} {t : Tok} (y : GI hb n A env base Lg s₀ ρ s) (he : IsEnum s.heap e it k old) (hi : s.heap.IsStrIter it "str_ascii_iterator" x t k) (h1 : base ≤ e) (h2 : base ≤ it) (hbn : hb.get? e = none ∧ hb.get? it = none) (g : Go (fun b => b = e ∨ b = it) s s') (hle : e ≠ env.locals ∧ it ≠ env.locals) : GI hb n A env base Lg s₀ ρ s' := by
  obtain ⟨c, gw⟩ := y.iterW he hi h1 h2 hbn g.gw hle
  exact { y with cx := c, go := ⟨gw.kp, fun b o q => let ⟨o', q'⟩ := y.go.ex b o q; g.ex b o' q', gw.gens, gw.bare, gw.drawn, gw.os⟩ }

abbrev gT (q1 q2 q3 : Pos) (k0 : Nat) : Expr := .Tuple [.Name "pos" q1, .Name "ch" q2] k0 q3
abbrev gY (q8 q9 q10 q11 q12 : Pos) (k1 : Nat) : Stmt := .Expr (.Yield (some (.Tuple [.Name "pos" q8, .Name "ch" q9] k1 q10)) q11) q12
abbrev gB (q4 q5 q6 q7 q8 q9 q10 q11 q12 q13 q14 : Pos) (j k1 : Nat) (b1 b2 : List Stmt) : List Stmt := [.If (.Name "escape" q4) b1 [.If (.Compare (.Name "ch" q5) [.Eq] [.Constant (.str "\\") j q6] q7) b2 [gY q8 q9 q10 q11 q12 k1] q13] q14]

theorem gloop {x : Str} {q1 q2 q3 q4 q5 q6 q7 q8 q9 q10 q11 q12 q13 q14 : Pos} {k0 k1 j : Nat} {b1 b2 bf : List Stmt} {e it : Addr} {t : Tok} {K : Flow → Sem Fin} {H : Value → Sem Fin} {p : Pos} (hA : Room (n + 1) A) (hne : e ≠ it) (h1 : base ≤ e) (h2 : base ≤ it) (hbn : hb.get? e = none ∧ hb.get? it = none) (hle : e ≠ env.locals ∧ it ≠ env.locals)
    (hnb : ∀ c ∈ x.cps.toList, c ≠ 92) (hpos : env.kindOf "pos" = some .local) (hch : env.kindOf "ch" = some .local) (hco : env.scope.isCoroutine = false) (hint : interactive env = false)
    (hK : ∀ s₀ s, Cx hb n (A.over (.func bf env) []) env { s₀ with heap := hb } (fun _ => False) (fun _ => False) [("escape", .bool false)] [] s → Gw (WG base Lg s₀) s₀ s → Seg (model prog w) A (RG base Lg) (YG hb base Lg (charsD x)) 0 s₀ (.func bf env) (K .next) [] s) :
    ∀ (m k : Nat), k + m = (charsD x).length → ∀ s₀ s A₂, GI hb n A₂ env base Lg s₀ [("escape", .bool false)] s → (∃ old, IsEnum s.heap e it k old) → s.heap.IsStrIter it "str_ascii_iterator" x t k →
      Seg (model prog w) A (RG base Lg) (YG hb base Lg (charsD x)) m s₀ (.forLoop (gT q1 q2 q3 k0) (.ref e) (gB q4 q5 q6 q7 q8 q9 q10 q11 q12 q13 q14 j k1 b1 b2) [] env)
        ((model prog w).den (.forLoop (gT q1 q2 q3 k0) (.ref e) (gB q4 q5 q6 q7 q8 q9 q10 q11 q12 q13 q14 j k1 b1 b2) [] env)) [loopFrame env K H id id (.func bf env) p] s
  | 0, k, hk, s₀, s, A₂, y, he, hi => by
    have y' := y.room (hA.overL (t := gT q1 q2 q3 k0) (it := .ref e) (body := gB q4 q5 q6 q7 q8 q9 q10 q11 q12 q13 q14 j k1 b1 b2) (b2 := bf) (env' := env) (e2 := env) (K := K) (H := H) (gd := id) (lv := id) (p := p))
    have itr := Itr.enumS (prog := prog) (w := w) (A := A.over (.forLoop (gT q1 q2 q3 k0) (.ref e) (gB q4 q5 q6 q7 q8 q9 q10 q11 q12 q13 q14 j k1 b1 b2) [] env) [loopFrame env K H id id (.func bf env) p]) (ts := [.Name "pos" q1, .Name "ch" q2]) (k := k0) (tp := q3) (S := fun b => b ≠ e ∧ b ≠ it) (x := x) (t := t) (e := e) (it := it) y'.cx.room.handled hne (fun q => q.1 rfl) (fun q => q.2 rfl)
    have hk' : k = (charsD x).length := by omega
    subst hk'
    obtain ⟨old, he'⟩ := he
    refine seg_forLoop (wpAny_mono (itr.done s (fun s' => Seg (model prog w) A (RG base Lg) (YG hb base Lg (charsD x)) 0 s₀ (.block [] env) ((model prog w).den (.block [] env)) [loopFrame env K H id id (.func bf env) p] s') _ ⟨⟨old, he'⟩, hi⟩ fun s' g => ?_) (fun r s₁ h₁ => ?_) fun _ _ z => z)
    · obtain ⟨c, gw⟩ := y'.iterW he' hi h1 h2 hbn g hle
      exact seg_block_nil (seg_leaf (.ok .next) (hK s₀ s' { c with room := hA.overF } gw))
    · cases r with
      | none => exact h₁
      | some v => exact h₁.elim
  | m + 1, k, hk, s₀, s, A₂, y, he, hi => by
    have hAL := hA.overL (t := gT q1 q2 q3 k0) (it := .ref e) (body := gB q4 q5 q6 q7 q8 q9 q10 q11 q12 q13 q14 j k1 b1 b2) (b2 := bf) (env' := env) (e2 := env) (K := K) (H := H) (gd := id) (lv := id) (p := p)
    have y' := y.room hAL
    have itr := Itr.enumS (prog := prog) (w := w) (A := A.over (.forLoop (gT q1 q2 q3 k0) (.ref e) (gB q4 q5 q6 q7 q8 q9 q10 q11 q12 q13 q14 j k1 b1 b2) [] env) [loopFrame env K H id id (.func bf env) p]) (ts := [.Name "pos" q1, .Name "ch" q2]) (k := k0) (tp := q3) (S := fun b => b ≠ e ∧ b ≠ it) (x := x) (t := t) (e := e) (it := it) y'.cx.room.handled hne (fun q => q.1 rfl) (fun q => q.2 rfl)
    have hkl : k < (charsD x).length := by omega
    have hd : (charsD x)[k]? = some (charsD x)[k] := List.getElem?_eq_getElem hkl
    obtain ⟨c, hc, hdc⟩ := charsD_get hd
    rw [hdc] at hd
    have hcn : c ≠ 92 := hnb c (by have := List.mem_of_getElem? (show x.cps.toList[k]? = some c by simpa using hc); exact this)
    obtain ⟨old, he'⟩ := he
    refine seg_forLoop (wpAny_mono (itr.item k s _ (fun v s₁ => wpAny (model prog w) (A.over (.forLoop (gT q1 q2 q3 k0) (.ref e) (gB q4 q5 q6 q7 q8 q9 q10 q11 q12 q13 q14 j k1 b1 b2) [] env) [loopFrame env K H id id (.func bf env) p]) (PySem.assign (gT q1 q2 q3 k0) env v) (fun _ s₂ => Seg (model prog w) A (RG base Lg) (YG hb base Lg (charsD x)) (m + 1) s₀ (.forLoop (gT q1 q2 q3 k0) (.ref e) (gB q4 q5 q6 q7 q8 q9 q10 q11 q12 q13 q14 j k1 b1 b2) [] env) ((execs (gB q4 q5 q6 q7 q8 q9 q10 q11 q12 q13 q14 j k1 b1 b2) env).wrap (loopK (gT q1 q2 q3 k0) (.ref e) (gB q4 q5 q6 q7 q8 q9 q10 q11 q12 q13 q14 j k1 b1 b2) env) (loopH env) id id) [loopFrame env K H id id (.func bf env) p] s₂)
      (fun x' s' => Seg (model prog w) A (RG base Lg) (YG hb base Lg (charsD x)) (m + 1) s₀ (.forLoop (gT q1 q2 q3 k0) (.ref e) (gB q4 q5 q6 q7 q8 q9 q10 q11 q12 q13 q14 j k1 b1 b2) [] env) (loopH env x') [loopFrame env K H id id (.func bf env) p] s') s₁) _ ⟨⟨old, he'⟩, hi⟩ hd fun v s₁ g st₁ r₁ => ?_) (fun r s₁ h₁ => ?_) fun _ _ z => z)
    rotate_left
    · cases r with
      | none => exact h₁.elim
      | some v => exact h₁
    have y₁ := y'.iter he' hi h1 h2 hbn g hle
    have sxl : ∀ b, Sx (fun _ => False) (fun _ => False) env [] b → b = env.locals := fun b q => by
      rcases q with q | q | q | ⟨z, q⟩ | ⟨p, hp, _⟩
      · exact q.elim
      · exact q.elim
      · exact q
      · rw [y.cells] at q; cases q
      · cases hp
    refine (AC.tupleT (.cons hpos (.cons hch .nil))).run { s₀ with heap := hb } (fun _ => False) (fun _ => False) s₁ v _ _ y₁.cx (r₁ _ (fun b q => by rw [sxl b q]; exact ⟨hle.1.symm, hle.2.symm⟩) fun b q => y'.cx.bd q) fun s₂ o₂ l₂ => ?_
    have y₂ := y₁.next o₂.cx o₂.go (by simp [scalar])
    have he₂ : ∃ old, IsEnum s₂.heap e it (k + 1 : Nat) old := let ⟨old, q⟩ := st₁.1; ⟨old, l₂.kp _ _ hle.1 q⟩
    have hi₂ : s₂.heap.IsStrIter it "str_ascii_iterator" x t (k + 1) := let ⟨o, q, r⟩ := st₁.2; ⟨o, l₂.kp _ _ hle.2 q, r⟩
    refine seg_execs_cons (seg_If ((EB.val (.name rfl)).run _ _ _ s₂ _ _ y₂.cx fun s₃ g₃ => ?_))
    rw [if_neg (by decide)]
    refine seg_execs_cons (seg_If ((EB.conv (.cmp (.name rfl) .strc .eqStr) (d' := false) ?_).run _ _ _ s₃ _ _ (y₂.keep g₃).cx fun s₄ g₄ => ?_))
    · have h92 : (("\\" : Str)) = ⟨#[92]⟩ := by decide +kernel
      rw [beq_eq_false_iff_ne, h92]
      intro q
      exact hcn (by cases q; rfl)
    rw [if_neg (by decide)]
    have y₄ := (y₂.keep g₃).keep g₄
    refine seg_execs_cons (seg_Expr_Yield rfl rfl rfl ((EV.tuple (.cons (.name rfl) (.cons (.name rfl) .nil))).run _ _ _ s₄ _ _ y₄.wide fun v s₅ g₅ r₅ kap hkap => ?_) hco hint)
    have y₅ := y₄.keep g₅
    refine ⟨⟨_, by rw [show (charsD x).length - 1 - m = k by omega]; exact hd, by omega, fun T hT => r₅.weak fun b q => ?_⟩, y₅.go, fun s'' kg => ?_⟩
    · obtain ⟨o, e'⟩ := hT b q
      cases e'' : hb.get? b with
      | none => exact .inr (.inl ⟨⟨o, e'⟩, e''⟩)
      | some o' => exact .inl ⟨o', e''⟩
    · refine hkap .none s'' ?_
      have k5 := fun b o (q : s₂.heap.get? b = some o) => ((g₃.tr g₄).tr g₅).k0 b o q
      have he₅ : ∃ old, IsEnum s''.heap e it (k + 1 : Nat) old := let ⟨old, q⟩ := he₂; ⟨old, kg.kw _ _ (.inr ⟨h1, _, k5 _ _ q, .inl rfl⟩) (k5 _ _ q)⟩
      have hi₅ : s''.heap.IsStrIter it "str_ascii_iterator" x t (k + 1) := let ⟨o, q, r⟩ := hi₂; ⟨o, kg.kw _ _ (.inr ⟨h2, _, k5 _ _ q, .inr r.1⟩) (k5 _ _ q), r⟩
      have y₆ := (y₅.wake kg hAL).sub (ρ' := [("escape", .bool false)]) (fun y d q => by
        rcases lookup_cons_cases q with ⟨rfl, rfl⟩ | ⟨_, q⟩
        · rfl
        · cases q) (by simp [scalar])
      exact seg_again rfl (gloop hA hne h1 h2 hbn hle hnb hpos hch hco hint hK m (k + 1) (by omega) s'' s'' _ y₆ he₅ hi₅)
end
end Mine

namespace Mine
open PySem PySem.Calls PyProof.Rows

section
variable {prog : Program} {w : World} {A : Around} {E : Value → Shared → Prop} {s : Shared}
/-- the next of a generator function's generator, which is left without cleanup -/
theorem next_bare {a : Addr} {g n : Nat} {gs : GenState} {P : Nat → Shared → Shared → Prop} {Y : Protocol} {Q : Option Value → Shared → Prop} (hh : A.handled = none) (hl : s.heap.NoLimit) (hroom : A.depth < recursionLimit) (hg : s.heap.IsGen a g) (hgs : s.gens[g]? = some gs)
    (hgo : gs.Goes (model prog w) A.in1 (fun n s₀ r s₁ => r = .ok (.ret .none) ∧ P n s₀ s₁) Y n (.send .none) (s.setGen g .running))
    (hY : ∀ v s₁ gs', gs'.bare = true → Y (n - 1) (s.setGen g .running) v s₁ (fun r' s'' => match n with
        | 0 => False
        | m + 1 => gs'.Goes (model prog w) A.in1 (fun n s₀ r s₁ => r = .ok (.ret .none) ∧ P n s₀ s₁) Y m r' s'') → Q (some v) (s₁.setGen g gs'))
    (hP : ∀ s₁, P n (s.setGen g .running) s₁ → ∀ h', (∀ b o, s₁.heap.get? b = some o → h'.get? b = some o) → Q none { s₁.setGen g .finished with heap := h' }) : wpAny (model prog w) A (pyNext (.ref a)) Q E s := by
  unfold pyNext
  refine wpAny_bind (wpAny_attempt (wpAny_callSpecial?_slot (name := Str.ofString "__next__") hg.typeIs slot_gen_next (wpAny_call_entry slot_gen_next hg.typeIs entry_gen_next ?_ (args_gen_next _))))
  show wpAny _ A.in1 (Builtin.Generator.genWake (.ref a) (.send .none)) _ _ s
  unfold Builtin.Generator.genWake
  refine wpAny_bind (wpAny_holding (wpAny_genNumber hg (wpAny_bind (wpAny_genState hgs ?_))))
  cases gs with
  | running => exact hgo.elim
  | finished => exact hgo.elim
  | _ =>
    refine wpAny_bind (wpAny_roomToWake hl hroom ?_)
    refine wpAny_resumeQ (r := .send .none) hgs hgo (fun x s₁ hx => ?_) (fun v s₁ gs' hb hv => wpAny_pure ⟨v, rfl, wpAny_pure (hY v s₁ gs' hb hv)⟩)
    obtain ⟨rfl, hp⟩ := hx
    show wpAny _ _ (newExc (.type "StopIteration") [] >>= _) _ _ _
    simp only [newExc, newTuple]
    refine wpAny_bind (wpAny_bind (wpAny_newObj_type (wpAny_bind (m := firstArgMember _ _) (wpAny_of_eq (a := Value.none) (by first | rfl | (simp only [firstArgMember]; rfl)) (wpAny_newObj_type ?_ (by size_fits)))) (by size_fits)))
    simp only [raiseNew]
    refine wpAny_bind (wpAny_bind (wpAny_handled ?_))
    rw [show A.in1.handled = none from hh]
    exact wpAny_throw (wpAny_bind (wpAny_isInstance (T := "StopIteration") (b := true) ⟨_, Heap.get?_push_size _ rfl, rfl⟩ isSubtype_stop (wpAny_pure (hP s₁ hp _ fun b o hb => Heap.get?_push_of_some _ (Heap.get?_push_of_some _ hb)))))
end
end Mine

namespace Mine
open PySem PySem.Calls PyProof.Rows

/-- the state goes on, but for the generator g and the objects W -/
structure Gn (g : Nat) (W : ASet) (s s' : Shared) : Prop where
  kp : ∀ b o, ¬ W b → s.heap.get? b = some o → s'.heap.get? b = some o
  gens : ∀ (i : Nat) (x : GenState), i ≠ g → s.gens[i]? = some x → s'.gens[i]? = some x
  bare : AllBare s.gens → AllBare s'.gens
  drawn : s'.drawn = s.drawn
  os : s'.os = s.os

theorem gens_set {s : Shared} {g i : Nat} {x y : GenState} (hi : i ≠ g) (h : s.gens[i]? = some y) : (s.setGen g x).gens[i]? = some y := by
  have := (GenOnly.setGen s g x).2 i hi
  rw [this]; exact h
theorem bare_set {s : Shared} {g : Nat} {x : GenState} (hx : x.bare = true) (h : AllBare s.gens) : AllBare (s.setGen g x).gens := by
  intro y hy
  obtain ⟨i, hi, rfl⟩ := Array.mem_iff_getElem.mp hy
  by_cases e : i = g
  · subst e
    have h1 : (s.setGen i x).gens[i]? = some (s.setGen i x).gens[i] := Array.getElem?_eq_getElem hi
    have h2 : i < s.gens.size := by
      have := (GenOnly.setGen s i x).1
      omega
    rw [setGen_self (Array.getElem?_eq_getElem h2)] at h1
    rw [← Option.some.inj h1]; exact hx
  · have h1 := (GenOnly.setGen s g x).2 i e
    rw [Array.getElem?_eq_getElem hi] at h1
    obtain ⟨hi', e'⟩ := Array.getElem?_eq_some_iff.mp h1.symm
    exact e' ▸ h _ (Array.getElem_mem hi')

/-- a generator, k of whose items are drawn -/
structure GSt (prog : Program) (w : World) (hb : Heap) (A : Around) (base Lg : Addr) (g : Nat) (I : Addr) (xs : List PyData) (k : Nat) (s : Shared) : Prop where
  isg : s.heap.IsGen I g
  ne : I ≠ Lg
  old : ∀ b o, hb.get? b = some o → b < base
  lg : base ≤ Lg
  st : ∃ gs, s.gens[g]? = some gs ∧ ∀ s'', KeepG hb base Lg s s'' → gs.Goes (model prog w) A.in1 (RG base Lg) (YG hb base Lg xs) (xs.length - k) (.send .none) s''

section
variable {prog : Program} {w : World} {hb : Heap} {A : Around} {base Lg : Addr} {g : Nat} {I : Addr} {xs : List PyData} {k : Nat} {E : Value → Shared → Prop} {s s' : Shared}
theorem gen_notIter {h : Heap} (x : h.IsGen I g) : ∀ o, h.get? I = some o → ¬ IterObj o := fun o e q => by
  obtain ⟨o', nm, qn, e', hc, _⟩ := x
  rw [e] at e'; cases e'
  rcases q with q | q <;> rw [hc] at q <;> exact absurd q (by decide)
theorem GSt.frame (x : GSt prog w hb A base Lg g I xs k s) (hI : ∀ o, s.heap.get? I = some o → s'.heap.get? I = some o) (hg : ∀ y, s.gens[g]? = some y → s'.gens[g]? = some y) (hw : ∀ b o, WG base Lg s b → s.heap.get? b = some o → s'.heap.get? b = some o) : GSt prog w hb A base Lg g I xs k s' := by
  obtain ⟨gs, h1, h2⟩ := x.st
  refine ⟨let ⟨o, nm, qn, e, r⟩ := x.isg; ⟨o, nm, qn, hI o e, r⟩, x.ne, x.old, x.lg, gs, hg gs h1, fun s'' kg => h2 s'' ⟨kg.kb, fun b o q e => kg.kw b o ?_ (hw b o q e)⟩⟩
  rcases q with q | ⟨q, o', e', r⟩
  · exact .inl q
  · exact .inr ⟨q, o', hw b o' (.inr ⟨q, o', e', r⟩) e', r⟩

theorem GSt.item {Q : Option Value → Shared → Prop} {d : PyData} (x : GSt prog w hb A base Lg g I xs k s) (hh : A.handled = none) (hl : s.heap.NoLimit) (hroom : A.depth < recursionLimit) (kb : ∀ b o, hb.get? b = some o → s.heap.get? b = some o) (hd : xs[k]? = some d)
    (hQ : ∀ v s', Gn g (WG base Lg s) s s' → (∀ b o, s.heap.get? b = some o → ∃ o', s'.heap.get? b = some o') → GSt prog w hb A base Lg g I xs (k + 1) s' → (∀ T : ASet, (∀ b, T b → ∃ o, s.heap.get? b = some o) → Rep T s'.heap v d) → Q (some v) s') : wpAny (model prog w) A (pyNext (.ref I)) Q E s := by
  obtain ⟨gs, hgs, hgo⟩ := x.st
  have hk : k < xs.length := (List.getElem?_eq_some_iff.mp hd).1
  obtain ⟨m, hm⟩ : ∃ m, xs.length - k = m + 1 := ⟨xs.length - k - 1, by omega⟩
  rw [hm] at hgo
  refine next_bare (P := PG base Lg) hh hl hroom x.isg hgs (hgo (s.setGen g .running) ⟨kb, fun b o _ e => e⟩) (fun v s₁ gs' hb' hy => ?_) (fun s₁ hp h' hk' => absurd hp.1 (Nat.succ_ne_zero m))
  obtain ⟨⟨d', hd', _, hrep⟩, go, hkap⟩ := hy
  rw [show xs.length - 1 - (m + 1 - 1) = k by omega, hd] at hd'
  cases hd'
  have hg1 : s₁.gens[g]? = some .running := go.gens g _ (setGen_self hgs)
  have hI : ∀ o, s.heap.get? I = some o → s₁.heap.get? I = some o := fun o e => go.kp I o (fun q => by
    rcases q with q | ⟨_, o', e', r⟩
    · exact x.ne q
    · exact gen_notIter x.isg o' e' r) e
  refine hQ v _ ⟨fun b o q e => go.kp b o q e, fun i y hi e => gens_set hi (go.gens i y (gens_set hi e)), fun q => bare_set hb' (go.bare (bare_set rfl q)), go.drawn, go.os⟩ (fun b o e => go.ex b o e) ⟨let ⟨o, nm, qn, e, r⟩ := x.isg; ⟨o, nm, qn, hI o e, r⟩, x.ne, x.old, x.lg, gs', setGen_self hg1, fun s'' kg => ?_⟩ hrep
  rw [show xs.length - (k + 1) = m by omega]
  exact hkap s'' ⟨kg.kb, kg.kw⟩

theorem GSt.done {Q : Option Value → Shared → Prop} (x : GSt prog w hb A base Lg g I xs xs.length s) (hh : A.handled = none) (hl : s.heap.NoLimit) (hroom : A.depth < recursionLimit) (kb : ∀ b o, hb.get? b = some o → s.heap.get? b = some o)
    (hQ : ∀ s', Gn g (WG base Lg s) s s' → Q none s') : wpAny (model prog w) A (pyNext (.ref I)) Q E s := by
  obtain ⟨gs, hgs, hgo⟩ := x.st
  rw [Nat.sub_self] at hgo
  refine next_bare (P := PG base Lg) hh hl hroom x.isg hgs (hgo (s.setGen g .running) ⟨kb, fun b o _ e => e⟩) (fun v s₁ gs' hb' hy => ?_) (fun s₁ hp h' hk' => ?_)
  · exact (hy.2.2 s₁ ⟨fun b o e => hy.2.1.kp b o (fun q => by
      have := x.old b o e
      rcases q with q | ⟨q, _⟩
      · exact absurd (Nat.lt_of_lt_of_le this x.lg) (by rw [q]; exact Nat.lt_irrefl _)
      · exact absurd this (Nat.not_lt.mpr q)) (kb b o e), fun b o _ e => e⟩).elim
  · have go := hp.2
    exact hQ _ ⟨fun b o q e => hk' b o (go.kp b o q e), fun i y hi e => gens_set hi (go.gens i y (gens_set hi e)), fun q => bare_set rfl (go.bare (bare_set rfl q)), go.drawn, go.os⟩
end
end Mine

namespace Mine
open PySem PySem.Calls PyProof.Rows

section
variable {prog : Program} {w : World} {hb : Heap} {n : Nat} {A A' : Around} {env : Env} {ρ ρ' : Rho} {ω : Omega} {s₀ s s' : Shared} {base Lg : Addr}

/-- the generator's first waking -/
theorem gstart (T : TopF hb) {x : Str} {a1 a3 a4 c1 c3 c4 r1 r2 r3 r4 z1 z2 q1 q2 q3 q4 q5 q6 q7 q8 q9 q10 q11 q12 q13 q14 : Pos} {a2 c2 k0 k1 j : Nat} {b1 b2 b3 : List Stmt} {bf : List Stmt} (hbf : bf = [.Assign [.Name "pos" a1] (.Constant (.int 0) a2 a3) a4, .Assign [.Name "escape" c1] (.Constant (.bool false) c2 c3) c4, .For (gT q1 q2 q3 k0) (.Call (.Name "enumerate" r1) [.Name "addr" r2] [] r3) (gB q4 q5 q6 q7 q8 q9 q10 q11 q12 q13 q14 j k1 b1 b2) [] r4, .If (.Name "escape" z1) b3 [] z2])
    (hA : Room (n + 1) A) (hg : Glob T "enumerate" (.type "enumerate")) (hke : env.kindOf "enumerate" = some .globalImplicit) (ha : x.cps.all (· < 128) = true) (hnb : ∀ c ∈ x.cps.toList, c ≠ 92) (hpos : env.kindOf "pos" = some .local) (hch : env.kindOf "ch" = some .local) (hes : env.kindOf "escape" = some .local) (hco : env.scope.isCoroutine = false) (hint : interactive env = false)
    (old : ∀ b o, hb.get? b = some o → b < base) (hlg : base ≤ Lg)
    (y : GI hb n A' env base Lg s [("addr", .str x)] s) :
    Seg (model prog w) A (RG base Lg) (YG hb base Lg (charsD x)) (charsD x).length s (.func bf env) ((model prog w).den (.func bf env)) [] s := by
  have y' := y.room (hA.overF (body := bf) (env' := env))
  refine seg_func ?_
  subst hbf
  refine seg_execs_cons (seg_wrap ((ST.assign (d := .int 0) .int (.inl hpos) noOwn).run { s with heap := hb } _ _ s _ _ y'.cx fun f s₁ h₁ => ?_))
  obtain ⟨rfl, o₁⟩ := h₁
  have y₁ := y'.next o₁.cx o₁.go (by simp [scalar])
  refine seg_execs_cons (seg_wrap ((ST.assign (d := .bool false) .boolc (.inl hes) noOwn).run { s with heap := hb } _ _ s₁ _ _ y₁.cx fun f s₂ h₂ => ?_))
  obtain ⟨rfl, o₂⟩ := h₂
  have y₂ := y₁.next o₂.cx o₂.go (by simp [scalar])
  refine seg_execs_cons (seg_For (enum_eval T y₂.cx hke hg (.cons (.name rfl) .nil) ha fun s₃ e it t g₃ hne hen hin hlt he hi p => ?_))
  have hbN : ∀ b, base ≤ b → hb.get? b = none := fun b q => by
    cases e' : hb.get? b with
    | none => rfl
    | some o => exact absurd (old b o e') (Nat.not_lt.mpr q)
  have hlo : ∃ o, s₂.heap.get? env.locals = some o := let ⟨m, o, _, _, e', _⟩ := y₂.cx.ns; ⟨o, e'⟩
  have fr : base ≤ e ∧ base ≤ it := by
    obtain ⟨o, e'⟩ := hlo
    have := hlt _ _ e'
    rw [y₂.lg] at this
    exact ⟨Nat.le_of_lt (Nat.lt_of_le_of_lt hlg this.1), Nat.le_of_lt (Nat.lt_of_le_of_lt hlg this.2)⟩
  have nl : ∀ b, s₂.heap.get? b = none → b ≠ env.locals := fun b q z => by obtain ⟨o, e'⟩ := hlo; rw [← z, q] at e'; cases e'
  have y₃ := (y₂.keep g₃).sub (ρ' := [("escape", .bool false)]) (fun y d q => by
    rcases lookup_cons_cases q with ⟨rfl, rfl⟩ | ⟨_, q⟩
    · rfl
    · cases q) (by simp [scalar])
  refine gloop hA hne fr.1 fr.2 ⟨hbN _ fr.1, hbN _ fr.2⟩ ⟨nl e hen, nl it hin⟩ hnb hpos hch hco hint (fun s₀ s₄ c gw => ?_) (charsD x).length 0 (Nat.zero_add _) s s₃ _ y₃ ⟨_, he⟩ hi
  refine seg_execs_cons (seg_If ((EB.val (.name rfl)).run _ _ _ s₄ _ _ c fun s₅ g₅ => ?_))
  rw [if_neg (by decide)]
  exact seg_end (.ok (.ret .none)) ⟨rfl, rfl, fun b o q e' => g₅.k0 b o (gw.kp b o q e'), fun i gs e' => g₅.gens i gs (gw.gens i gs e'), fun q => g₅.bare (gw.bare q), g₅.drawn.trans gw.drawn, g₅.os.trans gw.os⟩
end
end Mine

namespace Mine
open PySem PySem.Calls PyProof.Rows

theorem Room.in1 {n : Nat} {A : Around} (r : Room (n + 1) A) : Room n A.in1 := ⟨r.handled, by have := r.depth; show A.depth + n + 2 < _; omega, by have := r.units; show A.units + 1 + 8 * n + 200 < _; omega⟩

section
variable {prog : Program} {w : World} {hb : Heap} {n : Nat} {A : Around} {s : Shared}
/-- a new generator -/
theorem gcreate {T : TopF hb} (W : Tops hb T) {x : Str} {t : Tok} {Q E : Value → Shared → Prop} (room : Room (n + 2) A) (base : ∀ b o, hb.get? b = some o → s.heap.get? b = some o) (ha : x.cps.all (· < 128) = true) (hnb : ∀ c ∈ x.cps.toList, c ≠ 92)
    (hQ : ∀ s' I Lg, Go0 s s' → s.heap.objs.size ≤ Lg → s.heap.get? I = none → Lg < I → (∀ A', Room (n + 2) A' → GSt prog w hb A' s.heap.objs.size Lg s.gens.size I (charsD x) 0 s') → Q (.ref I) s') :
    wpAny (model prog w) A (call (.ref (W.adr 2)) [.str x t]) Q E s := by
  obtain ⟨_, D⟩ := W.defs 2 (by decide)
  refine wpAny_call (codeAny_call_generator (fd := defOf 2 (W.pm 2) (W.cd 2)) (body := fnBody (topS 2)) room.d (base _ _ D.get) rfl rfl rfl rfl (D.code.keeps base) ?_)
  rw [show bindArgs (defOf 2 (W.pm 2) (W.cd 2)) ⟨[.str x t], []⟩ = (pure [(("addr" : Str), Value.str x t)] : Sem (List (Str × Value))) from by kernel_rfl]
  refine wpAny_pure ?_
  refine wpAny_newFunctionEnv (show ∀ x ∈ (fnScope (topS 2)).names, x.2 ≠ .cell by decide) (by intro y hy; simp at hy; subst hy; rfl) (fun h' hn' hs' => ?_) rfl
  generalize hL : s.heap.objs.size = Lg at hn' hs' hQ
  have kp : ∀ b o, s.heap.get? b = some o → h'.get? b = some o := fun b o e => hs'.extBut b o (fun q => by rw [q, ← hL, fresh_size] at e; cases e) (Heap.get?_push_of_some _ e)
  have hsz : h'.objs.size = Lg + 1 := by rw [hs'.1, Heap.size_push, hL]
  refine ⟨(T.lim.keeps base).keeps kp, hQ _ _ Lg ⟨fun b o _ e => Heap.get?_push_of_some _ (kp b o e), fun b o e => ⟨o, Heap.get?_push_of_some _ (kp b o e)⟩, fun i gs e => ?_, fun q => ?_, rfl, rfl⟩ (Nat.le_refl _) ?_ (by show Lg < h'.objs.size; omega) fun A' r' => ⟨⟨_, _, _, Heap.get?_push_size _ rfl, rfl, rfl, rfl⟩, by show h'.objs.size ≠ Lg; omega, fun b o e => hL ▸ Heap.lt_size (base b o e), Nat.le_refl _, _, Array.getElem?_push_size, fun s'' kg => ⟨rfl, ?_⟩⟩⟩
  · have hi : i < s.gens.size := (Array.getElem?_eq_some_iff.mp e).1
    show (s.gens.push _)[i]? = _
    rw [Array.getElem?_push_lt hi]; rw [Array.getElem?_eq_getElem hi] at e; exact e
  · intro y hy
    rcases Array.mem_push.mp hy with hy | rfl
    · exact q y hy
    · rfl
  · cases e : s.heap.get? h'.objs.size with
    | none => rfl
    | some o => exact absurd (Heap.lt_size e) (by rw [hL]; show ¬ (h'.objs.size < Lg); omega)
  · rw [Nat.sub_zero]
    have old : ∀ b o, hb.get? b = some o → b < Lg := fun b o e => hL ▸ Heap.lt_size (base b o e)
    have hns := hn'.push { cls := .type "generator", data := .fields #[.int s.gens.size 0, .str (defOf 2 (W.pm 2) (W.cd 2)).name (s.toks + 1), .str (defOf 2 (W.pm 2) (W.cd 2)).qualname (s.toks + 1 + 1)] }
    have hns'' : s''.heap.Ns Lg _ := hns.at' fun o e => kg.kw Lg o (.inl rfl) e
    have hLn : hb.get? Lg = none := by
      cases e : hb.get? Lg with
      | none => rfl
      | some o => exact absurd (old _ _ e) (Nat.lt_irrefl _)
    refine gstart T (A' := A') rfl r'.in1 W.enum rfl ha hnb rfl rfl rfl rfl rfl old (Nat.le_refl _) ⟨⟨fun b o e => e, ⟨fun b o _ e => kg.kb b o e, fun b o e => ⟨o, kg.kb b o e⟩, fun _ _ e => e, id, rfl, rfl⟩, r'.le (by omega), rfl, rfl, rfl, (fun b q => q.elim), (fun b q => q.elim), ⟨_, hns''⟩, hLn, (fun y c hc => by cases hc), List.Pairwise.nil, fun y d e => ?_, (fun p hp => nomatch hp), List.nodup_nil⟩, .refl, rfl, rfl, kg.kb, by simp [scalar], ?_⟩
    · rcases lookup_cons_cases e with ⟨rfl, rfl⟩ | ⟨_, e⟩
      · exact ⟨.str x t, .inl ⟨rfl, _, hns'', rfl⟩, .str _ _⟩
      · cases e
    · obtain ⟨o, _, _, e, _⟩ := hns''; exact ⟨o, e⟩
end
end Mine

namespace Mine
open PySem PySem.Calls PyProof.Rows

/-- what stood before the generator was made -/
structure Low (base : Addr) (s₀ : Shared) (env : Env) (Wt : ASet) (ω : Omega) : Prop where
  s0 : ∀ b o, s₀.heap.get? b = some o → b < base
  wt : ∀ b, Wt b → b < base
  loc : env.locals < base
  cell : ∀ y c, (y, c) ∈ env.cells → c < base
  own : ∀ p ∈ ω, p.2.1 < base ∧ ∃ xs, p.2.2 = .list xs ∧ ∀ d ∈ xs, scalar d = true

section
variable {prog : Program} {w : World} {hb : Heap} {n : Nat} {A : Around} {env : Env} {ρ ρ' : Rho} {ω : Omega} {s₀ s s' : Shared} {S₀ Wt : ASet} {base : Addr}

theorem Cx.turnS {g : Nat} {W : ASet} (x : Cx hb n A env s₀ S₀ Wt ρ ω s) (L : Low base s₀ env Wt ω) (hρ : ∀ p ∈ ρ, scalar p.2 = true) (gn : Gn g W s s') (hW : ∀ b, W b → base ≤ b) (hg : s₀.gens.size ≤ g) : Cx hb n A env s₀ S₀ Wt ρ ω s' := by
  have kp : ∀ b o, b < base → s.heap.get? b = some o → s'.heap.get? b = some o := fun b o h e => gn.kp b o (fun q => absurd h (Nat.not_lt.mpr (hW b q))) e
  have at' : ∀ y v, At env s.heap y v → At env s'.heap y v := fun y v a => by
    rcases a with ⟨hk, m, hn, hm⟩ | ⟨hk, c, hc, o, e, d⟩
    · exact .inl ⟨hk, m, hn.at' fun o e => kp _ o L.loc e, hm⟩
    · exact .inr ⟨hk, c, hc, o, kp c o (L.cell y c (PySem.mem_of_lookup hc)) e, d⟩
  refine { x with
    go := ⟨fun b o _ e => kp b o (L.s0 b o e) (x.go.k0 b o e), fun b o e => ⟨o, kp b o (L.s0 b o e) (x.go.k0 b o e)⟩, fun i gs e => gn.gens i gs (fun q => ?_) (x.go.gens i gs e), fun q => gn.bare (x.go.bare q), gn.drawn.trans x.go.drawn, gn.os.trans x.go.os⟩
    wt := fun b q => ⟨let ⟨o, e⟩ := (x.wt b q).1; ⟨o, kp b o (L.wt b q) e⟩, (x.wt b q).2⟩
    ns := let ⟨m, h⟩ := x.ns; ⟨m, h.at' fun o e => kp _ o L.loc e⟩
    cell := fun z c h => ⟨let ⟨v, o, e, dd⟩ := (x.cell z c h).1; ⟨v, o, kp c o (L.cell z c h) e, dd⟩, (x.cell z c h).2⟩
    loc := fun z dd e => let ⟨v, b, r⟩ := x.loc z dd e; ⟨v, at' z v b, r.scalarH (hρ (z, dd) (PySem.mem_of_lookup e))⟩
    own := fun p hp => ?_ }
  · have := (Array.getElem?_eq_some_iff.mp e).1; omega
  · obtain ⟨a, b, c, d, e, r⟩ := x.own p hp
    obtain ⟨hlt, xs, hxs, hsc⟩ := L.own p hp
    refine ⟨at' _ _ a, b, c, d, e, ?_⟩
    rcases r with ⟨vs, m, xs', h1, h2, h3⟩ | ⟨es, m, kvs, h1, _⟩
    · have : xs' = xs := by rw [h1] at hxs; cases hxs; rfl
      subst this
      exact .inl ⟨vs, m, xs', h1, kp _ _ hlt h2, h3.1, fun i v d p q => (h3.2 i v d p q).scalarH (hsc d (List.mem_of_getElem? q))⟩
    · rw [h1] at hxs; unfold dictD at hxs; cases hxs
end
end Mine

namespace Mine
open PySem PySem.Calls PyProof.Rows

section
variable (prog : Program) (w : World) (hb : Heap) (n : Nat) (A : Around) (env : Env)
/-- the rest of a for over a generator -/
structure FLg (ρ : Rho) (ω : Omega) (t : Expr) (body : List Stmt) (xs : List PyData) (out : Out) : Prop where
  run : ∀ (s₀ : Shared) (S₀ Wt : ASet) (ωr : Omega) (sr s : Shared) (base Lg : Addr) (g : Nat) (I : Addr) (all : List PyData) (k : Nat) (R : Result → Shared → Prop),
    GSt prog w hb A base Lg g I all k s → Low base s₀ env Wt ω → (∀ b o, sr.heap.get? b = some o → b < base) → s₀.gens.size ≤ g → sr.gens.size ≤ g → base ≤ I → NextOk hb n A env s₀ S₀ Wt ωr sr ρ ω s → k ≤ all.length → all.drop k = xs →
      (∀ f s', OutOk hb n A env s₀ S₀ Wt ωr sr out f s' → R (.ok f) s') → codeAny (model prog w) A (.forLoop t (.ref I) body [] env) R s
end

section
variable {prog : Program} {w : World} {hb : Heap} {n : Nat} {A : Around} {env : Env} {ρ ρ' : Rho} {ω ω' ωr : Omega} {s₀ sr s s' : Shared} {S₀ Wt : ASet} {base : Addr}

theorem NextOk.turnS {g : Nat} {W : ASet} (x : NextOk hb n A env s₀ S₀ Wt ωr sr ρ ω s) (L : Low base s₀ env Wt ω) (hρ : ∀ p ∈ ρ, scalar p.2 = true) (gn : Gn g W s s') (hW : ∀ b, W b → base ≤ b) (hg : s₀.gens.size ≤ g) (hr : ∀ b o, sr.heap.get? b = some o → b < base) (hgr : sr.gens.size ≤ g) : NextOk hb n A env s₀ S₀ Wt ωr sr ρ ω s' := by
  have kp : ∀ b o, b < base → s.heap.get? b = some o → s'.heap.get? b = some o := fun b o h e => gn.kp b o (fun q => absurd h (Nat.not_lt.mpr (hW b q))) e
  refine ⟨x.cx.turnS L hρ gn hW hg, x.sx, fun b o hb' e => kp b o (hr b o e) (x.go.kp b o hb' e), fun b o e => let ⟨o', e'⟩ := x.go.ex b o e; ⟨o', kp b o' (hr b o e) e'⟩, fun i gs e => gn.gens i gs (fun q => ?_) (x.go.gens i gs e), fun q => gn.bare (x.go.bare q), gn.drawn.trans x.go.drawn, gn.os.trans x.go.os⟩
  have := (Array.getElem?_eq_some_iff.mp e).1; omega

theorem FLg.nil (T : TopF hb) {t : Expr} {body : List Stmt} (hρ : ∀ p ∈ ρ, scalar p.2 = true) : FLg prog w hb n A env ρ ω t body [] (.next ρ ω) := ⟨fun s₀ S₀ Wt ωr sr s base Lg g I all k R gst L hr hg hgr hI x hk hd hR => by
  have hk' : k = all.length := by
    have := congrArg List.length hd
    simp at this; omega
  subst hk'
  refine for_step (wpAny_mono (gst.done (Q := fun r s' => r = none ∧ NextOk hb n A env s₀ S₀ Wt ωr sr ρ ω s') x.cx.room.handled (T.lim.keeps x.cx.hb0) x.cx.room.d x.cx.hb0 fun s' gn => ⟨rfl, x.turnS L hρ gn (fun b q => ?_) hg hr hgr⟩) (fun r s₁ h₁ => ?_) fun _ _ e => e)
  · rcases q with q | q
    · rw [q]; exact gst.lg
    · exact q.1
  · obtain ⟨rfl, h₁⟩ := h₁
    exact hR .next s₁ ⟨rfl, h₁⟩⟩

theorem FLg.item {t : Expr} {body : List Stmt} {d : PyData} {Lg : Addr} {g : Nat} {I : Addr} {all : List PyData} {k : Nat} {R : Result → Shared → Prop} (T : TopF hb) (hρ : ∀ p ∈ ρ, scalar p.2 = true) (gst : GSt prog w hb A base Lg g I all k s) (L : Low base s₀ env Wt ω) (hr : ∀ b o, sr.heap.get? b = some o → b < base) (hg : s₀.gens.size ≤ g) (hgr : sr.gens.size ≤ g) (x : NextOk hb n A env s₀ S₀ Wt ωr sr ρ ω s) (hd : all[k]? = some d)
    (h : ∀ v s₁, GSt prog w hb A base Lg g I all (k + 1) s₁ → NextOk hb n A env s₀ S₀ Wt ωr sr ρ ω s₁ → Rep (Sx S₀ Wt env ω) s₁.heap v d →
      wpAny (model prog w) A (assign t env v) (fun _ s₂ => wpAny (model prog w) A (execs body env) (fun f s₃ => match f with
            | .next | .cont => codeAny (model prog w) A (.forLoop t (.ref I) body [] env) R s₃
            | .brk => R (.ok .next) s₃
            | .ret v => R (.ok (.ret v)) s₃) (notedBy (model prog w) A env fun e s' => R (.error e) s') s₂) (notedBy (model prog w) A env fun e s' => R (.error e) s') s₁) :
    codeAny (model prog w) A (.forLoop t (.ref I) body [] env) R s := by
  refine for_step (gst.item x.cx.room.handled (T.lim.keeps x.cx.hb0) x.cx.room.d x.cx.hb0 hd fun v s₁ gn ex gst₁ r₁ => ?_)
  obtain ⟨o, nm, qn, ho, hc, _⟩ := gst₁.isg
  exact letGo_other ho hc (by decide) (h v s₁ gst₁ (x.turnS L hρ gn (fun b q => by
    rcases q with q | q
    · rw [q]; exact gst.lg
    · exact q.1) hg hr hgr) (r₁ _ fun b q => x.cx.bd q))

theorem low_mx (L : Low base s₀ env Wt ω) : ∀ b, Mx env ω b → b < base := fun b q => by
  rcases q with q | ⟨y, q⟩ | ⟨p, hp, q⟩
  · rw [q]; exact L.loc
  · exact L.cell y b q
  · rw [← q]; exact (L.own p hp).1
theorem FLg.next (T : TopF hb) {ρ'' : Rho} {t : Expr} {body : List Stmt} {d : PyData} {xs : List PyData} {out : Out} (hρ : ∀ p ∈ ρ, scalar p.2 = true) (hω : ∀ p ∈ ω', ∃ q ∈ ω, q.2.1 = p.2.1) (hωs : ∀ p ∈ ω', ∃ xs, p.2.2 = .list xs ∧ ∀ d ∈ xs, scalar d = true) (ha : AS prog w hb n A env ρ ω t d ρ') (hb' : EX prog w hb n A env ρ' ω body (.next ρ'' ω')) (hr' : FLg prog w hb n A env ρ'' ω' t body xs out) : FLg prog w hb n A env ρ ω t body (d :: xs) out :=
  ⟨fun s₀ S₀ Wt ωr sr s base Lg g I all k R gst L hr hg hgr hI x hk hd hR => by
  obtain ⟨hd1, hd2, hk2⟩ := drop_cons hd
  refine FLg.item T hρ gst L hr hg hgr x hd1 fun v s₁ gst₁ x₁ r₁ => ?_
  refine ha.run s₀ S₀ Wt s₁ v _ _ x₁.cx r₁ fun s₂ o₂ => ?_
  refine hb'.run s₀ S₀ Wt s₂ _ _ o₂.cx fun f s₃ h₃ => ?_
  obtain ⟨rfl, o₃⟩ := h₃
  have go := (o₂.trans o₃).go
  have hi : ∀ b o, base ≤ b → s₁.heap.get? b = some o → s₃.heap.get? b = some o := fun b o q e => go.kp b o (fun z => absurd (low_mx L b z) (Nat.not_lt.mpr q)) e
  have gst₃ := gst₁.frame (fun o e => hi I o hI e) (fun y e => go.gens g y e) fun b o q e => hi b o (by
    rcases q with q | q
    · rw [q]; exact gst.lg
    · exact q.1) e
  exact hr'.run s₀ S₀ Wt ωr sr s₃ base Lg g I all (k + 1) R gst₃ ⟨L.s0, L.wt, L.loc, L.cell, fun p hp => ⟨let ⟨q, hq, e⟩ := hω p hp; e ▸ (L.own q hq).1, hωs p hp⟩⟩ hr hg hgr hI (x₁.trans (o₂.trans o₃)) hk2 hd2 hR⟩
theorem FLg.ret (T : TopF hb) {t : Expr} {body : List Stmt} {d r : PyData} {xs : List PyData} (hρ : ∀ p ∈ ρ, scalar p.2 = true) (ha : AS prog w hb n A env ρ ω t d ρ') (hb' : EX prog w hb n A env ρ' ω body (.ret r)) : FLg prog w hb n A env ρ ω t body (d :: xs) (.ret r) :=
  ⟨fun s₀ S₀ Wt ωr sr s base Lg g I all k R gst L hr hg hgr hI x hk hd hR => by
  obtain ⟨hd1, hd2, hk2⟩ := drop_cons hd
  refine FLg.item T hρ gst L hr hg hgr x hd1 fun v s₁ gst₁ x₁ r₁ => ?_
  refine ha.run s₀ S₀ Wt s₁ v _ _ x₁.cx r₁ fun s₂ o₂ => ?_
  refine hb'.run s₀ S₀ Wt s₂ _ _ o₂.cx fun f s₃ h₃ => ?_
  obtain ⟨v, rfl, g, rr⟩ := h₃
  exact hR _ s₃ ⟨v, rfl, g, rr⟩⟩
theorem FLg.sub {t : Expr} {body : List Stmt} {xs : List PyData} {out : Out} (h : FLg prog w hb n A env ρ' ω t body xs out) (c : Cov ρ ρ') : FLg prog w hb n A env ρ ω t body xs out :=
  ⟨fun s₀ S₀ Wt ωr sr s base Lg g I all k R gst L hr hg hgr hI x => h.run s₀ S₀ Wt ωr sr s base Lg g I all k R gst L hr hg hgr hI ⟨x.cx.sub c.sub, x.sx, x.go⟩⟩
end
end Mine

namespace Mine
open PySem PySem.Calls PyProof.Rows

section
variable {prog : Program} {w : World} {hb : Heap} {n : Nat} {A : Around} {env : Env} {ρ ρ' : Rho} {ω ω' ωr : Omega} {s₀ sr s s' : Shared} {S₀ Wt : ASet} {base : Addr}

theorem name_2 : fnName (topS 2) = "_iter_escaped_chars" := rfl
/-- for t in _iter_escaped_chars(e) -/
theorem ST.forG {T : TopF hb} (W : Tops hb T) {t e₁ : Expr} {body : List Stmt} {p cpos pos : Pos} {x : Str} {out : Out} (hn : 2 ≤ n) (hk : env.kindOf "_iter_escaped_chars" = some .globalImplicit) (ha : x.cps.all (· < 128) = true) (hnb : ∀ c ∈ x.cps.toList, c ≠ 92) (h1 : EVs prog w hb n A env ρ ω [e₁] [.str x]) (hωs : ∀ p ∈ ω, ∃ xs, p.2.2 = .list xs ∧ ∀ d ∈ xs, scalar d = true)
    (hf : FLg prog w hb n A env ρ ω t body (charsD x) out) (he : starEach [e₁] env = (false, eval e₁ env) :: starEach [] env := by exact star_cons rfl) (hs : ∀ y, foldedSetIterable (.Call (.Name "_iter_escaped_chars" p) [e₁] [] cpos) env y = pure y := by intro _; rfl) :
    ST prog w hb n A env ρ ω (.For t (.Call (.Name "_iter_escaped_chars" p) [e₁] [] cpos) body [] pos) out := .mk fun s₀ S₀ Wt s Q E x' hQ => by
  obtain ⟨hg, D⟩ := W.defs 2 (by decide)
  rw [name_2] at hg
  refine wpAny_For ?_ hs
  show wpAny _ A (eval (.Name "_iter_escaped_chars" p) env >>= fun fv => callWith cpos fv [] (backTo cpos (starEach [e₁] env)) (backToKw cpos (keywordEach [] env))) _ _ s
  refine wpAny_bind (glob_name T x' hk hg ?_ (by decide))
  refine callWith_function (o := { cls := .type "function", data := .func (defOf 2 (W.pm 2) (W.cd 2)) }) (fd := defOf 2 (W.pm 2) (W.cd 2)) ?_
  have hss := h1.run s₀ S₀ Wt s cpos (fun vs s₁ => ((s₁.heap.get? (W.adr 2) = some { cls := .type "function", data := .func (defOf 2 (W.pm 2) (W.cd 2)) } ∧ (Obj.data { cls := .type "function", data := .func (defOf 2 (W.pm 2) (W.cd 2)) }) = .func (defOf 2 (W.pm 2) (W.cd 2))) ∧ wpAny (model prog w) A (call (.ref (W.adr 2)) ([] ++ vs) []) (fun xv s₁ => wpAny (model prog w) A (pyIter xv) (fun it s₂ => codeAny (model prog w) A (.forLoop t it body [] env) (fun r s' => match r with | .ok f => Q f s' | .error e => cameBackBy (model prog w) A env E e s') s₂) E s₁) E s₁)) E x' fun vs s₁ g₁ r => ⟨⟨(x'.keep g₁).hb0 _ _ D.get, rfl⟩, ?_⟩
  · rw [he] at hss ⊢
    exact evalArgs_plain hss
  · match vs, r with
    | [], r => exact absurd r.1 (by simp)
    | _ :: _ :: _, r => exact absurd r.1 (by simp)
    | [u], r =>
      obtain ⟨tk, rfl⟩ := r.head.strOf
      have x₁ := x'.keep g₁
      refine gcreate (n := n - 2) W (x₁.room.le (by omega)) x₁.hb0 ha hnb fun s₂ I Lg g₂ hLg hIn hLI gst => ?_
      have gs := gst A (x₁.room.le (by omega))
      refine wpAny_pyIter_gen gs.isg ?_
      have lt : ∀ b o, s₁.heap.get? b = some o → b < s₁.heap.objs.size := fun b o e => Heap.lt_size e
      have sz : ∀ z : Shared, Go0 z s₁ → z.gens.size ≤ s₁.gens.size := fun z gz => Nat.le_of_not_lt fun q => by
        have := gz.gens s₁.gens.size _ (Array.getElem?_eq_getElem q)
        rw [Array.getElem?_eq_none (Nat.le_refl _)] at this; cases this
      exact hf.run s₀ S₀ Wt ω s s₂ _ Lg _ I (charsD x) 0 _ gs ⟨fun b o e => lt b o (x₁.go.k0 b o e), fun b q => let ⟨o, e⟩ := (x₁.wt b q).1; lt b o e, let ⟨m, h⟩ := x₁.ns; h.lt, fun y c hc => let ⟨v, o, e, _⟩ := (x₁.cell y c hc).1; lt c o e, fun p hp => ⟨let ⟨o, e⟩ := x₁.bd (b := p.2.1) (.inr (.inr (.inr (.inr ⟨p, hp, rfl⟩)))); lt _ o e, hωs p hp⟩⟩ (fun b o e => lt b o (g₁.k0 b o e)) (sz _ x₁.go) (sz _ g₁) (Nat.le_of_lt (Nat.lt_of_le_of_lt hLg hLI)) ⟨x₁.keep g₂, fun b q => .inl q, (g₁.tr g₂).mono fun _ q => q.elim⟩ (Nat.zero_le _) rfl fun f s' h => hQ f s' h
end
end Mine

namespace Mine
open PySem PySem.Calls PyProof.Rows

noncomputable def foldP {α σ : Type} (step : α → σ → Option σ) : List α → σ → Option σ
  | [], s => some s
  | k :: ks, s => match step k s with
    | none => none
    | some s' => foldP step ks s'
noncomputable def outP {σ : Type} (Rh : σ → Rho) (Wh : σ → Omega) (r : PyData) : Option σ → Out
  | none => .ret r
  | some s => .next (Rh s) (Wh s)
section
variable {prog : Program} {w : World} {hb : Heap} {n : Nat} {A : Around} {env : Env} {ρ ρ' : Rho} {ω ω' ωr : Omega} {s₀ sr s s' : Shared} {S₀ Wt : ASet} {base : Addr}
theorem FLg.run_ {α σ : Type} {t : Expr} {body : List Stmt} {r : PyData} {f : α → PyData} (T : TopF hb) (P : List α → σ → Prop) (Rh : σ → Rho) (Wh : σ → Omega) (step : α → σ → Option σ) (hsc : ∀ s, ∀ p ∈ Rh s, scalar p.2 = true) (hwa : ∀ s s', (Wh s).map (·.2.1) = (Wh s').map (·.2.1)) (hws : ∀ s, ∀ p ∈ Wh s, ∃ xs, p.2.2 = .list xs ∧ ∀ d ∈ xs, scalar d = true)
    (h : ∀ a as s, P (a :: as) s → ∃ ρ' ρ'', AS prog w hb n A env (Rh s) (Wh s) t (f a) ρ' ∧ EX prog w hb n A env ρ' (Wh s) body (outP (fun _ => ρ'') Wh r (step a s)) ∧ ∀ s', step a s = some s' → Cov ρ'' (Rh s') ∧ P as s') :
    ∀ as s, P as s → FLg prog w hb n A env (Rh s) (Wh s) t body (as.map f) (outP Rh Wh r (foldP step as s))
  | [], s, _ => .nil T (hsc s)
  | a :: as, s, hp => by
    obtain ⟨ρ', ρ'', h1, h2, h3⟩ := h a as s hp
    unfold foldP
    cases q : step a s with
    | none => rw [q] at h2; exact .ret T (hsc s) h1 h2
    | some s₁ =>
      rw [q] at h2
      obtain ⟨hc, hp'⟩ := h3 s₁ q
      refine .next T (hsc s) (fun p hp => ?_) (hws s₁) h1 h2 ((FLg.run_ T P Rh Wh step hsc hwa hws h as s₁ hp').sub hc)
      have : p.2.1 ∈ (Wh s).map (·.2.1) := by rw [hwa s s₁]; exact List.mem_map.mpr ⟨p, hp, rfl⟩
      obtain ⟨q, hq, e⟩ := List.mem_map.mp this
      exact ⟨q, hq, e⟩
end
end Mine

namespace Mine
open PySem PySem.Calls PyProof.Rows

/-- one sign for the judge of brackets -/
noncomputable def chkStep (p : Nat × Nat) (o : Int) : Option Int := if p.1 = 40 then some (o + 1) else if p.1 = 41 then (if o - 1 < 0 then none else some (o - 1)) else some o
noncomputable def chkOf (x : Str) : Bool := match foldP chkStep x.cps.toList.zipIdx 0 with
  | none => false
  | some o => o == 0

section
variable {prog : Program} {w : World} {hb : Heap} {n : Nat} {A : Around} {env : Env} {ρ : Rho} {ω : Omega} {s₀ s : Shared} {S₀ Wt : ASet}
theorem str1_eq (c d : Nat) : ((⟨#[c]⟩ : Str) == ⟨#[d]⟩) = decide (c = d) := by
  by_cases h : c = d
  · subst h; simp
  · rw [decide_eq_false h, beq_eq_false_iff_ne]
    intro q; exact h (by cases q; rfl)

theorem EX.consO {σ : Type} {st : Stmt} {rest : List Stmt} {Rh : σ → Rho} {Wh : σ → Omega} {r d : PyData} {o : Option σ} (h : ST prog w hb n A env ρ ω st (outP Rh Wh r o)) (h0 : o = none → r = d) (h1 : ∀ x, o = some x → EX prog w hb n A env (Rh x) (Wh x) rest (.ret d)) : EX prog w hb n A env ρ ω (st :: rest) (.ret d) := by
  cases o with
  | none => exact h0 rfl ▸ EX.consRet h
  | some x => exact .cons h (h1 x rfl)
theorem c_check {T : TopF hb} (W : Tops hb T) (hn : 2 ≤ n) (S : List (Str × Str)) (hS : ∀ p ∈ S, p.2.cps.all (· < 128) = true ∧ ∀ c ∈ p.2.cps.toList, c ≠ 92) (hstrip : Callable T prog w n "_strip_quoted_realnames" (fun ds d => ∃ x y, (x, y) ∈ S ∧ ds = [.str x] ∧ d = .str y)) :
    Callable T prog w (n + 1) "_check_parenthesis" (fun ds d => ∃ x y, (x, y) ∈ S ∧ ds = [.str x] ∧ d = .bool (chkOf y)) := by
  refine W.fn (k := 4) (ps := ["addr"]) (by decide) ⟨rfl, rfl, by decide, by decide, by decide⟩ rfl (fun _ _ vs h => by obtain ⟨a, rfl⟩ := len1 h rfl; kernel_rfl) (fun ds d ⟨_, _, _, h, _⟩ => by rw [h]; rfl) (fun A L f pm cd ds d ⟨x, y, hxy, hds, hd⟩ => ?_)
  subst hds; subst hd
  obtain ⟨ha, hnb⟩ := hS _ hxy
  refine EX.cons (ST.assign (d := .str y) (.call T hstrip rfl (Nat.le_refl _) (.cons (.name rfl) .nil) ⟨x, y, hxy, rfl, rfl⟩) (.inl rfl) noOwn) ?_
  refine EX.cons (ST.assign (d := .int 0) .int (.inl rfl) noOwn) ?_
  refine EX.consO (o := foldP chkStep y.cps.toList.zipIdx 0) (Rh := fun o : Int => [("opens", .int o), ("addr", .str y)]) (Wh := fun _ => []) (r := .bool false) (ST.forG W hn rfl ha hnb (.cons (.name rfl) .nil) (by intro p hp; cases hp) (FLg.sub (FLg.run_ (f := charD) T (fun _ _ => True) (fun o : Int => [("opens", .int o), ("addr", .str y)]) (fun _ => []) chkStep (by intro s p hp; simp at hp; rcases hp with rfl | rfl <;> rfl) (fun _ _ => rfl) (by intro s p hp; cases hp) (fun p ps o _ => ?_) _ 0 trivial) (.cons rfl (.cons rfl .nil)))) ?_ ?_
  · refine ⟨[("ch", .str ⟨#[p.1]⟩), ("pos", .int p.2), ("opens", .int o), ("addr", .str y)], [("opens", .int ((chkStep p o).getD 0)), ("addr", .str y)], .tupleT (.cons (.inl rfl) noOwn (.cons (.inl rfl) noOwn .nil)), ?_, fun s' e => ⟨?_, trivial⟩⟩
    · by_cases h40 : p.1 = 40
      · have e : chkStep p o = some (o + 1) := by unfold chkStep; rw [if_pos h40]
        rw [e]
        exact EX.out (EX.one (ST.if_ (b := true) (EB.conv (.cmp (.name rfl) .strc .eqStr) (by rw [h40]; decide +kernel)) (fun _ => EX.one (ST.augAdd rfl .int (.inl rfl) noOwn)) (fun h => nomatch h))) (.cons rfl (.cons rfl .nil))
      · have n40 : ((⟨#[p.1]⟩ : Str) == "(") = false := by
          have : ("(" : Str) = ⟨#[40]⟩ := by decide +kernel
          rw [this, str1_eq, decide_eq_false h40]
        by_cases h41 : p.1 = 41
        · by_cases hneg : o - 1 < 0
          · have e : chkStep p o = none := by unfold chkStep; rw [if_neg h40, if_pos h41, if_pos hneg]
            rw [e]
            exact EX.one (ST.if_ (b := false) (EB.conv (.cmp (.name rfl) .strc .eqStr) n40) (fun h => nomatch h) (fun _ => EX.one (ST.if_ (b := true) (EB.conv (.cmp (.name rfl) .strc .eqStr) (by rw [h41]; decide +kernel)) (fun _ => EX.cons (ST.augSub rfl .int (.inl rfl) noOwn) (EX.one (ST.if_ (b := true) (EB.conv (.cmp (.name rfl) .int .ltInt) (by simpa using hneg)) (fun _ => EX.one (ST.ret .boolc)) (fun h => nomatch h)))) (fun h => nomatch h))))
          · have e : chkStep p o = some (o - 1) := by unfold chkStep; rw [if_neg h40, if_pos h41, if_neg hneg]
            rw [e]
            exact EX.out (EX.one (ST.if_ (b := false) (EB.conv (.cmp (.name rfl) .strc .eqStr) n40) (fun h => nomatch h) (fun _ => EX.one (ST.if_ (b := true) (EB.conv (.cmp (.name rfl) .strc .eqStr) (by rw [h41]; decide +kernel)) (fun _ => EX.cons (ST.augSub rfl .int (.inl rfl) noOwn) (EX.one (ST.if_ (b := false) (EB.conv (.cmp (.name rfl) .int .ltInt) (by simpa using hneg)) (fun h => nomatch h) (fun _ => EX.nil)))) (fun h => nomatch h))))) (.cons rfl (.cons rfl .nil))
        · have n41 : ((⟨#[p.1]⟩ : Str) == ")") = false := by
            have : (")" : Str) = ⟨#[41]⟩ := by decide +kernel
            rw [this, str1_eq, decide_eq_false h41]
          have e : chkStep p o = some o := by unfold chkStep; rw [if_neg h40, if_neg h41]
          rw [e]
          exact EX.out (EX.one (ST.if_ (b := false) (EB.conv (.cmp (.name rfl) .strc .eqStr) n40) (fun h => nomatch h) (fun _ => EX.one (ST.if_ (b := false) (EB.conv (.cmp (.name rfl) .strc .eqStr) n41) (fun h => nomatch h) (fun _ => EX.nil))))) (.cons rfl (.cons rfl .nil))
    · rw [e]; exact .cons rfl (.cons rfl .nil)
  · intro q; unfold chkOf; rw [q]
  · intro o q
    unfold chkOf; rw [q]
    exact EX.one (ST.ret (.cmp (.name rfl) .int .eqInt))
end
end Mine

namespace Mine
open PySem PySem.Calls PyProof.Rows

section
variable {prog : Program} {w : World} {hb : Heap} {n : Nat} {A : Around} {env : Env} {ρ : Rho} {ω : Omega} {s₀ s : Shared} {S₀ Wt : ASet}
/-- x[l:u] of a string -/
theorem EV.strSlice {o lo up : Expr} {p pos : Pos} {x y : Str} {a b : Int} (ho : EV prog w hb n A env ρ ω o (.str x)) (hl : EV prog w hb n A env ρ ω lo (.int a)) (hu : EV prog w hb n A env ρ ω up (.int b)) (hz : y.cps.size ≤ 1000) (hy : (⟨((slicePicked x (some (a, 0)) (some (b, 0)) none).filterMap (x.cps[·]?)).toArray⟩ : Str) = y) (hxy : (slicePicked x (some (a, 0)) (some (b, 0)) none).length == x.length → x = y)
    (ht : ∀ o' r, letTemporaryGo o o' r = pure () := by intro _ _; rfl) : EV prog w hb n A env ρ ω (.Subscript o (.Slice (some lo) (some up) none p) pos) (.str y) := .mk fun s₀ S₀ Wt s Q E x' hQ => by
  refine wpAny_Subscript_str_slice (ho.run s₀ S₀ Wt s _ E x' fun v s₁ g₁ r₁ => hl.run s₀ S₀ Wt s₁ _ E (x'.keep g₁) fun vl s₂ g₂ r₂ => hu.run s₀ S₀ Wt s₂ _ E ((x'.keep g₁).keep g₂) fun vu s₃ g₃ r₃ => ?_) ht
  obtain ⟨t, rfl⟩ := r₁.strOf
  obtain ⟨t₂, rfl⟩ := r₂.intOf
  obtain ⟨t₃, rfl⟩ := r₃.intOf
  refine ⟨x, t, some (a, t₂), some (b, t₃), rfl, rfl, rfl, ?_⟩
  have g₄ : Go0 s₃ { s₃ with heap := s₃.heap.push { cls := .type "slice", data := .fields #[.int a t₂, .int b t₃, .none] } } := Go.push
  have gg := ((g₁.tr g₂).tr g₃).tr g₄
  unfold sliceMade
  split
  · rename_i h
    have e : x = y := hxy (by simpa [slicePicked] using h)
    subst e
    exact hQ _ _ gg (.str _ _)
  · have e : (⟨((slicePicked x (some (a, t₂)) (some (b, t₃)) none).filterMap (x.cps[·]?)).toArray⟩ : Str) = y := hy
    rw [e]
    exact ⟨Nat.le_trans hz (by decide), hQ _ _ (gg.tr Go.tok) (.str _ _)⟩

/-- x[l:] of a string -/
theorem EV.strFrom {o lo : Expr} {p pos : Pos} {x y : Str} {a : Int} (ho : EV prog w hb n A env ρ ω o (.str x)) (hl : EV prog w hb n A env ρ ω lo (.int a)) (hz : y.cps.size ≤ 1000) (hy : (⟨((slicePicked x (some (a, 0)) none none).filterMap (x.cps[·]?)).toArray⟩ : Str) = y) (hxy : (slicePicked x (some (a, 0)) none none).length == x.length → x = y)
    (ht : ∀ o' r, letTemporaryGo o o' r = pure () := by intro _ _; rfl) : EV prog w hb n A env ρ ω (.Subscript o (.Slice (some lo) none none p) pos) (.str y) := .mk fun s₀ S₀ Wt s Q E x' hQ => by
  refine wpAny_Subscript_str_slice (ho.run s₀ S₀ Wt s _ E x' fun v s₁ g₁ r₁ => hl.run s₀ S₀ Wt s₁ _ E (x'.keep g₁) fun vl s₂ g₂ r₂ => ?_) ht
  rw [evalPart_none]
  obtain ⟨t, rfl⟩ := r₁.strOf
  obtain ⟨t₂, rfl⟩ := r₂.intOf
  refine wpAny_pure ⟨x, t, some (a, t₂), none, rfl, rfl, rfl, ?_⟩
  have g₄ : Go0 s₂ { s₂ with heap := s₂.heap.push { cls := .type "slice", data := .fields #[.int a t₂, .none, .none] } } := Go.push
  have gg := (g₁.tr g₂).tr g₄
  unfold sliceMade
  split
  · rename_i h
    have e : x = y := hxy (by simpa [slicePicked] using h)
    subst e
    exact hQ _ _ gg (.str _ _)
  · have e : (⟨((slicePicked x (some (a, t₂)) none none).filterMap (x.cps[·]?)).toArray⟩ : Str) = y := hy
    rw [e]
    exact ⟨Nat.le_trans hz (by decide), hQ _ _ (gg.tr Go.tok) (.str _ _)⟩
theorem OpC.notInStr {x y : Str} : OpC .NotIn (.str y) (.str x) (!(!(Builtin.Str.occurrences x y 0 x.length 1).isEmpty)) := .mk fun _ _ _ _ _ s u v Q E _ ru rv hQ => by cases ru; cases rv; exact PyProof.Rows.notIn_str (hQ _ .refl)
end
end Mine

namespace Mine
open PySem PySem.Calls PyProof.Rows

noncomputable def cutS (x : Str) (a b : Nat) : Str := ⟨((slicePicked x (some ((a : Int), 0)) (some ((b : Int), 0)) none).filterMap (x.cps[·]?)).toArray⟩
noncomputable def cutF (x : Str) (a : Nat) : Str := ⟨((slicePicked x (some ((a : Int), 0)) none none).filterMap (x.cps[·]?)).toArray⟩
noncomputable def cutSOk (x : Str) (a b : Nat) : Bool := decide ((cutS x a b).cps.size ≤ 1000) && ((slicePicked x (some ((a : Int), 0)) (some ((b : Int), 0)) none).length != x.length || decide (x = cutS x a b))
noncomputable def cutFOk (x : Str) (a : Nat) : Bool := decide ((cutF x a).cps.size ≤ 1000) && ((slicePicked x (some ((a : Int), 0)) none none).length != x.length || decide (x = cutF x a))
structure SS where
  st : Nat
  op : Option Nat
  res : List Str
noncomputable def strStep (x : Str) (p : Nat × Nat) (s : SS) : SS := if p.1 = 34 then (match s.op with
  | none => ⟨s.st, some p.2, s.res⟩
  | some o => ⟨p.2 + 1, none, if s.st = o then s.res else s.res ++ [cutS x s.st o]⟩) else s
noncomputable def okStep (x : Str) (p : Nat × Nat) (s : SS) : Bool := match s.op with
  | none => true
  | some o => p.1 != 34 || s.st == o || (cutSOk x s.st o && decide (s.res.length ≤ 1000))
noncomputable def okFold (x : Str) : List (Nat × Nat) → SS → Bool
  | [], s => decide (s.res.length ≤ 1000) && (x.length ≤ s.st || cutFOk x s.st)
  | p :: ps, s => okStep x p s && okFold x ps (strStep x p s)
noncomputable def endS (x : Str) (s : SS) : List Str := if s.st < x.length then s.res ++ [cutF x s.st] else s.res
noncomputable def finS (x : Str) : SS := x.cps.toList.zipIdx.foldl (fun s p => strStep x p s) ⟨0, none, []⟩
/-- what is left of x -/
noncomputable def stripOf (x : Str) : Str := Txt.join "" (endS x (finS x))
noncomputable def okStrip (x : Str) : Bool := x.cps.all (· < 128) && x.cps.toList.all (fun c => c != 92) && decide (x.length ≤ 1000) && !(Builtin.Str.occurrences x "\"" 0 x.length 1).isEmpty && okFold x x.cps.toList.zipIdx ⟨0, none, []⟩ && JoinOk "" (endS x (finS x))

section
variable {prog : Program} {w : World} {hb : Heap} {n : Nat} {A : Around} {env : Env} {ρ : Rho} {ω : Omega} {s₀ s : Shared} {S₀ Wt : ASet}
theorem foldP_some {α σ : Type} (f : α → σ → σ) : ∀ (l : List α) (s : σ), foldP (fun a s => some (f a s)) l s = some (l.foldl (fun s a => f a s) s)
  | [], _ => rfl
  | a :: l, s => foldP_some f l (f a s)
theorem okFold_end (x : Str) : ∀ (l : List (Nat × Nat)) (s : SS), okFold x l s = true → okFold x [] (l.foldl (fun s p => strStep x p s) s) = true
  | [], _, h => h
  | p :: l, s, h => okFold_end x l _ (by
    unfold okFold at h
    exact (Bool.and_eq_true _ _ ▸ h).2)
theorem own1 {y z : Str} {a : Addr} {d : PyData} (h : y ≠ z) : ∀ p ∈ ([(y, a, d)] : Omega), p.1 ≠ z := fun p hp => by
  cases hp with
  | head => exact h
  | tail _ q => cases q
noncomputable def posD : Option Nat → PyData
  | none => .none
  | some o => natD o
theorem cutSOk.hz {x : Str} {a b : Nat} (h : cutSOk x a b = true) : (cutS x a b).cps.size ≤ 1000 := by
  unfold cutSOk at h
  rw [Bool.and_eq_true] at h
  exact of_decide_eq_true h.1
theorem cutSOk.he {x : Str} {a b : Nat} (h : cutSOk x a b = true) : ((slicePicked x (some ((a : Int), 0)) (some ((b : Int), 0)) none).length == x.length) = true → x = cutS x a b := fun q => by
  unfold cutSOk at h
  rw [Bool.and_eq_true, bne, q] at h
  exact of_decide_eq_true (by simpa using h.2)
theorem cutFOk.hz {x : Str} {a : Nat} (h : cutFOk x a = true) : (cutF x a).cps.size ≤ 1000 := by
  unfold cutFOk at h
  rw [Bool.and_eq_true] at h
  exact of_decide_eq_true h.1
theorem cutFOk.he {x : Str} {a : Nat} (h : cutFOk x a = true) : ((slicePicked x (some ((a : Int), 0)) none none).length == x.length) = true → x = cutF x a := fun q => by
  unfold cutFOk at h
  rw [Bool.and_eq_true, bne, q] at h
  exact of_decide_eq_true (by simpa using h.2)

theorem c_strip {T : TopF hb} (W : Tops hb T) (hn : 2 ≤ n) : Callable T prog w (n + 1) "_strip_quoted_realnames" (fun ds d => ∃ x, okStrip x = true ∧ ds = [.str x] ∧ d = .str (stripOf x)) := by
  refine W.fn (k := 3) (ps := ["addr"]) (by decide) ⟨rfl, rfl, by decide, by decide, by decide⟩ rfl (fun _ _ vs h => by obtain ⟨a, rfl⟩ := len1 h rfl; kernel_rfl) (fun ds d ⟨_, _, h, _⟩ => by rw [h]; rfl) (fun A L f pm cd ds d ⟨x, hok, hds, hd⟩ => ?_)
  subst hds; subst hd
  unfold okStrip at hok
  simp only [Bool.and_eq_true] at hok
  obtain ⟨⟨⟨⟨⟨ha, hnb⟩, hl⟩, hocc⟩, hof⟩, hj⟩ := hok
  have hnb : ∀ c ∈ x.cps.toList, c ≠ 92 := fun c hc => by simpa using List.all_eq_true.mp hnb c hc
  have hl : x.length ≤ 1000 := of_decide_eq_true hl
  have hfin := okFold_end x _ _ hof
  change okFold x [] (finS x) = true at hfin
  unfold okFold at hfin
  rw [Bool.and_eq_true] at hfin
  have hfl : (finS x).res.length ≤ 1000 := of_decide_eq_true hfin.1
  refine EX.cons (ST.if_ (b := false) (EB.conv (.cmp .strc (.name rfl) .notInStr) (by simpa using hocc)) (fun h => nomatch h) (fun _ => EX.nil)) ?_
  refine EX.cons (ST.assign (d := .int 0) .int (.inl rfl) noOwn) ?_
  refine EX.cons (ST.assign (d := .none) .nonec (.inl rfl) noOwn) ?_
  refine EX.newList (.inl rfl) rfl noOwn fun a => ?_
  let Rh : SS → Rho := fun s => [("open_pos", posD s.op), ("start", natD s.st), ("addr", .str x)]
  let Wh : SS → Omega := fun s => [("result", a, .list (s.res.map .str))]
  refine EX.cons (ρ' := Rh (finS x)) (ω' := Wh (finS x)) (ST.cast (out := outP Rh Wh .none (foldP (fun p s => some (strStep x p s)) x.cps.toList.zipIdx ⟨0, none, []⟩)) (ST.forG W hn rfl ha hnb (.cons (.name rfl) .nil) (by intro p hp; cases hp with
      | head => exact ⟨[], rfl, by intro d hd; cases hd⟩
      | tail _ h => cases h) (FLg.sub (ρ := Rh ⟨0, none, []⟩) (FLg.run_ (f := charD) T (fun as s => okFold x as s = true) Rh Wh (fun p s => some (strStep x p s)) (by
      intro s p hp; simp [Rh] at hp; rcases hp with rfl | rfl | rfl
      · cases s.op <;> rfl
      · rfl
      · rfl) (fun _ _ => rfl) (by
        intro s p hp
        cases hp with
        | head => exact ⟨_, rfl, by intro d hd; obtain ⟨y, _, rfl⟩ := List.mem_map.mp hd; rfl⟩
        | tail _ h => cases h) (fun p ps s hp => ?_) _ _ hof) (.cons rfl (.cons rfl (.cons rfl .nil))))) (by rw [foldP_some]; rfl)) ?_
  · unfold okFold at hp
    rw [Bool.and_eq_true] at hp
    refine ⟨[("ch", .str ⟨#[p.1]⟩), ("pos", .int p.2), ("open_pos", posD s.op), ("start", natD s.st), ("addr", .str x)], [("open_pos", posD (strStep x p s).op), ("start", natD (strStep x p s).st), ("addr", .str x)], .tupleT (.cons (.inl rfl) (own1 (by decide)) (.cons (.inl rfl) (own1 (by decide)) .nil)), ?_, fun s' e => ?_⟩
    · show EX prog w hb _ _ _ _ _ _ (.next _ (Wh (strStep x p s)))
      by_cases h34 : p.1 = 34
      · unfold okStep at hp
        cases hop : s.op with
        | none =>
          have e : strStep x p s = ⟨s.st, some p.2, s.res⟩ := by unfold strStep; rw [if_pos h34, hop]
          rw [e]
          exact EX.out (EX.one (ST.if_ (b := true) (EB.conv (.cmp (.name rfl) .strc .eqStr) (by rw [h34]; decide +kernel)) (fun _ => EX.one (ST.if_ (b := true) (.cmp (.name rfl) .nonec .isNone) (fun _ => EX.one (ST.assign (d := natD p.2) (.name rfl) (.inl rfl) (own1 (by decide)))) (fun h => nomatch h))) (fun h => nomatch h))) (.cons rfl (.cons rfl (.cons rfl .nil)))
        | some o =>
          rw [hop] at hp
          by_cases hso : s.st = o
          · have e : strStep x p s = ⟨p.2 + 1, none, s.res⟩ := by unfold strStep; rw [if_pos h34, hop]; simp only [if_pos hso]
            rw [e]
            refine EX.out (EX.one (ST.if_ (b := true) (EB.conv (.cmp (.name rfl) .strc .eqStr) (by rw [h34]; decide +kernel)) (fun _ => EX.one (ST.if_ (b := false) (.cmp (a := .int o) (.name rfl) .nonec .intIsNone) (fun h => nomatch h) (fun _ => EX.cons (ST.if_ (b := false) (EB.conv (.cmp (a := .int s.st) (b := .int o) (.name rfl) (.name rfl) .neInt) (by rw [hso]; simp)) (fun h => nomatch h) (fun _ => EX.nil)) (EX.cons (ST.assign (d := natD (p.2 + 1)) (.addN (b := 1) (.name rfl) .int) (.inl rfl) (own1 (by decide))) (EX.one (ST.assign (d := .none) .nonec (.inl rfl) (own1 (by decide)))))))) (fun h => nomatch h))) (.cons rfl (.cons rfl (.cons rfl .nil)))
          · have e : strStep x p s = ⟨p.2 + 1, none, s.res ++ [cutS x s.st o]⟩ := by unfold strStep; rw [if_pos h34, hop]; simp only [if_neg hso]
            have hc : cutSOk x s.st o = true ∧ s.res.length ≤ 1000 := by
              have := hp.1
              simp [h34, hso] at this
              exact this
            rw [e]
            have ew : Wh ⟨p.2 + 1, none, s.res ++ [cutS x s.st o]⟩ = ([(("result" : Str), a, PyData.list (s.res.map .str ++ [.str (cutS x s.st o)]))] : Omega) := by simp [Wh]
            rw [ew]
            refine EX.out (EX.one (ST.if_ (b := true) (EB.conv (.cmp (.name rfl) .strc .eqStr) (by rw [h34]; decide +kernel)) (fun _ => EX.one (ST.if_ (b := false) (.cmp (a := .int o) (.name rfl) .nonec .intIsNone) (fun h => nomatch h) (fun _ => EX.cons (ST.if_ (b := true) (EB.conv (.cmp (a := .int s.st) (b := .int o) (.name rfl) (.name rfl) .neInt) (by simpa using (fun h => hso (by exact_mod_cast h)))) (fun _ => EX.one (ST.append (.cons (.strSlice (x := x) (a := s.st) (b := o) (.name rfl) (.name rfl) (.name rfl) (cutSOk.hz hc.1) rfl (cutSOk.he hc.1)) .nil) (by rw [List.length_map]; omega))) (fun h => nomatch h)) (EX.cons (ST.assign (d := natD (p.2 + 1)) (.addN (b := 1) (.name rfl) .int) (.inl rfl) (own1 (by decide))) (EX.one (ST.assign (d := .none) .nonec (.inl rfl) (own1 (by decide)))))))) (fun h => nomatch h))) (.cons rfl (.cons rfl (.cons rfl .nil)))
      · have n34 : ((⟨#[p.1]⟩ : Str) == "\"") = false := by
          have : ("\"" : Str) = ⟨#[34]⟩ := by decide +kernel
          rw [this, str1_eq, decide_eq_false h34]
        have e : strStep x p s = s := by unfold strStep; rw [if_neg h34]
        rw [e]
        exact EX.out (EX.one (ST.if_ (b := false) (EB.conv (.cmp (.name rfl) .strc .eqStr) n34) (fun h => nomatch h) (fun _ => EX.nil))) (.cons rfl (.cons rfl (.cons rfl .nil)))
    · cases e
      exact ⟨.cons rfl (.cons rfl (.cons rfl .nil)), hp.2⟩
  · by_cases hlt : (finS x).st < x.length
    · have hc : cutFOk x (finS x).st = true := by
        have := hfin.2
        simp at this
        exact this.resolve_left (by omega)
      have ee : endS x (finS x) = (finS x).res ++ [cutF x (finS x).st] := by unfold endS; rw [if_pos hlt]
      refine EX.cons (ρ' := Rh (finS x)) (ω' := ([(("result" : Str), a, PyData.list ((endS x (finS x)).map .str))] : Omega)) (ST.cast (ST.if_ (b := true) (EB.conv (.cmp (a := .int (finS x).st) (b := .int x.length) (.name rfl) (.callB T rfl W.len (.cons (.name rfl) .nil) (.lenS (by omega))) .ltInt) (by simpa using hlt)) (fun _ => EX.one (ST.append (.cons (.strFrom (x := x) (a := (finS x).st) (.name rfl) (.name rfl) (cutFOk.hz hc) rfl (cutFOk.he hc)) .nil) (by rw [List.length_map]; omega))) (fun h => nomatch h)) (by rw [ee]; simp [Rh])) ?_
      exact EX.freeze (EX.one (ST.ret (.methS F.slot_str_join F.type_str_join .strc (.cons (.name rfl) .nil) (.join hj))))
    · have ee : endS x (finS x) = (finS x).res := by unfold endS; rw [if_neg hlt]
      refine EX.cons (ρ' := Rh (finS x)) (ω' := ([(("result" : Str), a, PyData.list ((endS x (finS x)).map .str))] : Omega)) (ST.cast (ST.if_ (b := false) (EB.conv (.cmp (a := .int (finS x).st) (b := .int x.length) (.name rfl) (.callB T rfl W.len (.cons (.name rfl) .nil) (.lenS (by omega))) .ltInt) (by simpa using hlt)) (fun h => nomatch h) (fun _ => EX.nil)) (by rw [ee])) ?_
      exact EX.freeze (EX.one (ST.ret (.methS F.slot_str_join F.type_str_join .strc (.cons (.name rfl) .nil) (.join hj))))
theorem checkT_ok : checkT.all (fun p => okStrip p.1 && (stripOf p.1).cps.all (· < 128) && (stripOf p.1).cps.toList.all (fun c => c != 92) && chkOf (stripOf p.1) == p.2) = true := by decide +kernel
end
end Mine

namespace Mine
open PySem PySem.Calls PyProof.Rows

section
variable {prog : Program} {w : World} {hb : Heap} {n m : Nat} {A : Around} {env : Env} {ρ : Rho} {ω : Omega} {s₀ s : Shared} {S₀ Wt : ASet}
theorem Callable.sub {T : TopF hb} {f : Str} {g g' : List PyData → PyData → Prop} (F : Callable T prog w n f g) (h : ∀ ds d, g' ds d → g ds d) : Callable T prog w n f g' := by
  obtain ⟨a, h1, h2, h3⟩ := F
  exact ⟨a, h1, h2, ⟨fun A S s vs ds d Q E r hb hs hg rs hQ => h3.run A S s vs ds d Q E r hb hs (h ds d hg) rs hQ⟩⟩
noncomputable def checkS : List (Str × Str) := checkT.map fun p => (p.1, stripOf p.1)
theorem lookup_mem {α β : Type} [BEq α] [LawfulBEq α] {x : α} {b : β} : ∀ {l : List (α × β)}, l.lookup x = some b → (x, b) ∈ l
  | [], h => by cases h
  | (k, v) :: r, h => by
    rw [List.lookup_cons] at h
    cases q : x == k
    · rw [q] at h; exact .tail _ (lookup_mem h)
    · rw [q] at h; cases h
      rw [eq_of_beq q]; exact .head _
theorem checkT_all {p : Str × Bool} (hp : p ∈ checkT) : okStrip p.1 = true ∧ (stripOf p.1).cps.all (· < 128) = true ∧ (∀ c ∈ (stripOf p.1).cps.toList, c ≠ 92) ∧ chkOf (stripOf p.1) = p.2 := by
  have := List.all_eq_true.mp checkT_ok p hp
  simp only [Bool.and_eq_true] at this
  obtain ⟨⟨⟨h1, h2⟩, h3⟩, h4⟩ := this
  exact ⟨h1, h2, fun c hc => by simpa using List.all_eq_true.mp h3 c hc, by simpa using h4⟩
theorem c_checkG {T : TopF hb} (W : Tops hb T) (hn : 2 ≤ n) : Callable T prog w (n + 2) "_check_parenthesis" checkG := by
  refine Callable.sub (c_check W (n := n + 1) (by omega) checkS (fun p hp => ?_) (Callable.sub (c_strip W hn) fun ds d ⟨x, y, hxy, h1, h2⟩ => ?_)) fun ds d ⟨x, b, hl, h1, h2⟩ => ?_
  · obtain ⟨q, hq, rfl⟩ := List.mem_map.mp hp
    have := checkT_all hq
    exact ⟨this.2.1, this.2.2.1⟩
  · obtain ⟨q, hq, e⟩ := List.mem_map.mp hxy
    cases e
    exact ⟨q.1, (checkT_all hq).1, h1, h2⟩
  · have hm := lookup_mem hl
    refine ⟨x, stripOf x, List.mem_map.mpr ⟨_, hm, rfl⟩, h1, ?_⟩
    rw [h2, (checkT_all hm).2.2.2]

/-- the numbers of a script -/
noncomputable def numsOf (l : List Int) : List Nat := ((l.take 6).map fun z => (z.fmod 1000000).toNat) ++ [0, 1137, 904, 1880, 277]
noncomputable def pairs6 : List (List (Nat × Nat)) := pairsOf 6 [0, 1, 2, 3, 4, 5]
noncomputable def turns6 : List Nat := pairs6.map turnN
noncomputable def sumOf (ms : List Nat) : Int := (worthsOf (profOf ms) pairs6 turns6).foldl (fun s p => s + p.2) 0
/-- what the plain law has to say -/
structure PlainLaw (ms : List Nat) : Prop where
  len : (profOf ms).length = (ledgOf ms).length
  same : ∀ p ∈ profOf ms, aget (ledgOf ms) p.1 = some p.2
  cnts : ∀ p ∈ profOf ms, p.2.cal.foldl (fun s q => s + q.2) 0 = p.2.nc
  nets : ∀ a b, (netOf (profOf ms) a b).natAbs < 2 ^ 60
  big : (sumOf ms).natAbs < 2 ^ 200
  det : sumOf ms ^ 2 = detOf ms

theorem dgetE (l : List (Int × Ent)) (k : Int) : dget (l.map fun p => (p.1, entD p.2)) k = (aget l k).map entD := dget_map entD l k
theorem dget_nodup : ∀ {l : List (Int × PyData)} {p : Int × PyData}, (l.map (·.1)).Nodup → p ∈ l → dget l p.1 = some p.2
  | (k, d) :: r, p, nd, hp => by
    obtain ⟨h1, h2⟩ := List.nodup_cons.mp nd
    unfold dget
    rcases List.mem_cons.mp hp with rfl | hp
    · rw [if_pos rfl]
    · rw [if_neg (fun e => h1 (by rw [e]; exact List.mem_map.mpr ⟨p, hp, rfl⟩))]
      exact dget_nodup h2 hp
theorem ent_eqAt {S : ASet} {u v : Value} {e : Ent} (ru : Rep S s.heap u (entD e)) (rv : Rep S s.heap v (entD e)) (hu : A.units + 100 < cLine) : SeqAt.EqAt A s u v true := by
  refine tuple_eqAt ru rv rfl (fun i d d' h1 h2 u v ru rv => ?_) (by omega)
  rw [h1] at h2; cases h2
  match i, h1 with
  | 0, h1 => cases h1; exact data_eqAt ru rv rfl (by simp [PyData.depth]; omega)
  | 1, h1 => cases h1; exact data_eqAt ru rv rfl (by simp [PyData.depth]; omega)
  | 2, h1 => cases h1; exact data_eqAt ru rv rfl (by simp [PyData.depth]; omega)
  | 3, h1 => cases h1; exact data_eqAt ru rv rfl (by simp [PyData.depth]; omega)
  | 4, h1 =>
    cases h1
    obtain ⟨_, _, _, _, _, _, _, hr⟩ := ru.dictOf
    refine dict_eqAt ru rv ⟨rfl, fun p hp => ⟨p.2, dget_nodup hr.2.1 hp, fun u v ru rv => ?_⟩⟩ (by simp; omega)
    obtain ⟨q, _, rfl⟩ := List.mem_map.mp hp
    exact data_eqAt ru rv rfl (by simp [PyData.depth]; omega)
theorem OpC.neProf {P L : List (Int × Ent)} (hl : P.length = L.length) (h : ∀ p ∈ P, aget L p.1 = some p.2) : OpC .NotEq (profD P) (profD L) false := .mk fun _ _ n A _ s u v Q E room ru rv hQ =>
  dict_ne ru rv ⟨by simp [hl], fun p hp => by
    obtain ⟨q, hq, rfl⟩ := List.mem_map.mp hp
    exact ⟨entD q.2, by rw [dgetE, h q hq]; rfl, fun u v ru rv => ent_eqAt ru rv (by have := room.units; simp; omega)⟩⟩ room.u (hQ s .refl)

theorem pairs_ok : pairs6.all okT = true := by decide +kernel
theorem turns_invs : turns6 = pairs6.map invs := by decide +kernel
theorem pairs_len : pairs6.length = 15 := by decide +kernel
theorem pairs_three : pairs6.all (fun pg => pg.length == 3) = true := by decide +kernel
theorem numsOf_len (l : List Int) : (numsOf l).length ≤ 11 := by
  unfold numsOf
  rw [List.length_append, List.length_map, List.length_take]
  simp; omega
theorem numsOf_lt {l : List Int} : ∀ m ∈ numsOf l, m < 1000000 := by
  intro m hm
  rcases List.mem_append.mp hm with hm | hm
  · obtain ⟨z, _, rfl⟩ := List.mem_map.mp hm
    have h1 := Int.fmod_lt_of_pos z (show (0 : Int) < 1000000 by decide)
    have h2 := Int.fmod_nonneg_of_pos z (show (0 : Int) < 1000000 by decide)
    omega
  · simp at hm; omega
end
end Mine

namespace Mine
open PySem PySem.Calls PyProof.Rows

section
variable {prog : Program} {w : World} {hb : Heap} {n m : Nat} {A : Around} {env : Env} {ρ : Rho} {ω : Omega} {s₀ s : Shared} {S₀ Wt : ASet}
theorem numD (z : Int) : PyData.int (z.fmod 1000000) = natD (z.fmod 1000000).toNat := by
  have h2 := Int.fmod_nonneg_of_pos z (show (0 : Int) < 1000000 by decide)
  unfold natD
  rw [Int.toNat_of_nonneg h2]
theorem nums_map (l : List Int) : ((l.take 6).map fun z => natD (z.fmod 1000000).toNat) ++ [.int 0, .int 1137, .int 904, .int 1880, .int 277] = (numsOf l).map natD := by
  unfold numsOf
  rw [List.map_append, List.map_map]; rfl
theorem splitOk_join (m : Nat) : JoinOk "'" [sgn (cal m) (m / 120 % 4), sgn (cld m) (m / 480 % 4), ticks (cnt m)] = true := (split_line m).2.2
theorem depth_all {α : Type} {f : α → PyData} : ∀ (l : List α), (∀ a ∈ l, (f a).depth ≤ 60) → PyData.depthAll (l.map f) ≤ 60
  | [], _ => by simp [PyData.depthAll]
  | a :: r, h => by
    have h1 := h a (.head _)
    have h2 := depth_all r fun b hb => h b (.tail _ hb)
    simp only [List.map_cons, PyData.depthAll]
    omega
theorem depth_list {α : Type} {f : α → PyData} (l : List α) (h : ∀ a ∈ l, (f a).depth ≤ 60) : (PyData.list (l.map f)).depth ≤ 64 := by
  have := depth_all l h
  simp only [PyData.depth]; omega
theorem powOk {a : Int} (h : a.natAbs < 2 ^ 200) : (Builtin.Int.intBits a : Int) * 2 ≤ 2 ^ 27 := by
  have := bits_lt h
  omega
theorem sum_nat (ms : List Nat) : (ms.map fun (m : Nat) => (m : Int)).sum = ((ms.sum : Nat) : Int) := by
  induction ms with
  | nil => rfl
  | cons a r ih => rw [List.map_cons, List.sum_cons, ih, List.sum_cons, Int.natCast_add]
theorem sum_natD {ms : List Nat} (lt : ∀ m ∈ ms, m < 1000000) (ln : ms.length ≤ 11) : BOp "sum" [.list (ms.map natD)] (.int (ms.sum : Nat)) := by
  have h := BOp.sum (ns := ms.map fun (m : Nat) => (m : Int)) (fun x hx => by obtain ⟨m, hm, rfl⟩ := List.mem_map.mp hx; have := lt m hm; omega) (by rw [List.length_map]; omega)
  rw [sum_nat, List.map_map] at h
  exact h
theorem sgn_ok : ((List.range 6).all fun t => (List.range 4).all fun p => PyData.strOk (sgn t p)) = true := by decide +kernel
theorem ticks_ok : ((List.range 5).all fun c => PyData.strOk (ticks c)) = true := by decide +kernel
theorem parts_lay (m : Nat) : (partsD m).canLay0 = true := by
  have h := cnt_le m
  have h1 := all_at (all_at sgn_ok (cal_lt m)) (Nat.mod_lt (m / 120) (show 4 > 0 by decide))
  have h2 := all_at (all_at sgn_ok (cld_lt m)) (Nat.mod_lt (m / 480) (show 4 > 0 by decide))
  have h3 := all_at ticks_ok (show cnt m < 5 by omega)
  simp [partsD, PyData.canLay0, PyData.canLayAll0, h1, h2, h3]
noncomputable def lawG : List PyData → PyData → Prop := fun ds d => ∃ l : List Int, l.length ≤ 63 ∧ ds = [.list (l.map .int)] ∧ d = .bool true
theorem nil_ent (P : List (Int × Ent)) (g : Int × Ent → Option PyData) (h : ∀ p ∈ P, g p = none) : P.filterMap g = [] := by
  rw [List.filterMap_eq_nil_iff]; exact h

theorem c_law {T : TopF hb} (W : Tops hb T) (hn : 10 ≤ n) (hp : ∀ l : List Int, PlainLaw (numsOf l)) : Callable T prog w (n + 1) "law" lawG := by
  refine W.fn (k := 36) (ps := ["script"]) (by decide) ⟨rfl, rfl, by decide, by decide, by decide⟩ rfl (fun _ _ vs h => by obtain ⟨a, rfl⟩ := len1 h rfl; kernel_rfl) (fun ds d ⟨_, _, h, _⟩ => by rw [h]; rfl) (fun A L f pm cd ds d ⟨l, hl, hds, hd⟩ => ?_)
  subst hds; subst hd
  have P := hp l
  have ln := numsOf_len l
  have lt := numsOf_lt (l := l)
  refine EX.cons (ST.assign (d := .list ((numsOf l).map natD)) (.conv (.addL (.comp (ρc := []) (ys := (l.take 6).map fun z => natD (z.fmod 1000000).toNat) (EI.conv (ys := (l.take 6).map .int) (EI.list (.sliceUpto (a := 6) (.name rfl) .int (by rw [List.length_map]; omega))) (by rw [List.map_take])) (.of rfl rfl rfl (by decide)) .nil
    (fun C => CL.conv (CL.fm (f := PyData.int) (g := fun z => some (natD (z.fmod 1000000).toNat)) (fun it acc => turn_one _ _ _ _ _ _ it acc _) (l.take 6) (fun z _ => ⟨_, .name rfl, sub_new sub_refl rfl, .nil, fun v hv => by
      cases hv
      exact .conv (.fmod (b := 1000000) (.name rfl) (.conv (.pow (a := 10) (b := 6) .int .int (by decide) (by decide +kernel)) (congrArg PyData.int (by decide +kernel))) (by decide)) (numD z)⟩)) (filterMap_some' _ _)) (by simp; omega)) (.list (.cons .int (.cons .int (.cons .int (.cons .int (.cons .int .nil)))))) (by simp; omega)) (by rw [← nums_map])) (.inr ⟨rfl, _, rfl⟩) noOwn) ?_
  refine EX.cons (ST.assignComp (ρc := []) (ys := (numsOf l).map lawCallD) rfl (EI.list (.name rfl)) (.of rfl rfl rfl (by decide)) .nil
    (fun C => CL.conv (CL.fm (f := natD) (g := fun m => some (lawCallD m)) (fun it acc => turn_one _ _ _ _ _ _ it acc _) (numsOf l) (fun m _ => ⟨_, .name rfl, sub_new sub_refl rfl, .nil, fun v hv => by
      cases hv
      exact .call T (c_call W (n := 0)) rfl (by omega) (.cons (.name rfl) .nil) ⟨m, rfl, rfl⟩⟩)) (filterMap_some' _ _)) (by simp; omega) (.inl rfl) noOwn) ?_
  refine EX.cons (ST.assignComp (ρc := []) (ys := (numsOf l).map partsD) rfl (EI.list (.name rfl)) (.of rfl rfl rfl (by decide)) .nil
    (fun C => CL.conv (CL.fm (f := natD) (g := fun m => some (partsD m)) (fun it acc => turn_one _ _ _ _ _ _ it acc _) (numsOf l) (fun m _ => ⟨_, .name rfl, sub_new sub_refl rfl, .nil, fun v hv => by
      cases hv
      exact .call T (c_parts W (n := 0)) rfl (by omega) (.cons (.name rfl) .nil) ⟨m, rfl, rfl⟩⟩)) (filterMap_some' _ _)) (by simp; omega) (.inl rfl) noOwn) ?_
  refine EX.cons (ST.assignComp (ρc := []) (ys := (numsOf l).map partsD) rfl (EI.list (.name rfl)) (.of rfl rfl rfl (by decide)) .nil
    (fun C => CL.conv (CL.fm (f := partsD) (g := fun m => some (partsD m)) (fun it acc => turn_one _ _ _ _ _ _ it acc _) (numsOf l) (fun m _ => ⟨_, .name rfl, sub_new sub_refl rfl, .nil, fun v hv => by
      cases hv
      exact .call T (c_decode W (n := 0)) rfl (by omega) (.cons (.methS (ds := [partsD m]) F.slot_str_join F.type_str_join .strc (.cons (.name rfl) .nil) (.join (xs := [sgn (cal m) (m / 120 % 4), sgn (cld m) (m / 480 % 4), ticks (cnt m)]) (splitOk_join m))) .nil) ⟨m, rfl, rfl⟩⟩)) (filterMap_some' _ _)) (by simp; omega) (.inl rfl) noOwn) ?_
  have lay : (PyData.list ((numsOf l).map partsD)).canLay0 = true := lay_map (f := partsD) _ fun m _ => parts_lay m
  have lay15 : (PyData.list (turns6.map natD)).canLay0 = true := lay_map (f := natD) _ fun _ _ => rfl
  refine EX.cons (ST.if_ (b := false) (EB.conv (.cmp (.name rfl) (.name rfl) (.neData lay lay (by rw [Nat.min_self]; exact depth_list (f := partsD) _ fun _ _ => by simp [partsD, PyData.depth, PyData.depthAll]))) (by rw [lay_refl lay]; rfl)) (fun h => nomatch h) (fun _ => EX.nil)) ?_
  refine EX.cons (ST.assign (d := profD (profOf (numsOf l))) (.call T (c_profile W (n := 0)) rfl (by omega) (.cons (.name rfl) .nil) ⟨numsOf l, by omega, rfl, rfl⟩) (.inl rfl) noOwn) ?_
  refine EX.cons (ST.if_ (b := false) (.cmp (.name rfl) (.call T (c_ledger W (n := 0)) rfl (by omega) (.cons (.name rfl) .nil) ⟨numsOf l, by omega, rfl, rfl⟩) (.neProf P.len P.same)) (fun h => nomatch h) (fun _ => EX.nil)) ?_
  refine EX.cons (ST.if_ (b := false) (EB.conv (.cmp (.comp (ρc := []) (ys := []) (EI.conv (ys := (profOf (numsOf l)).map fun p => entD p.2) (EI.values (.name rfl)) (by rw [List.map_map]; rfl)) (.of rfl rfl rfl (by decide)) .nil
    (fun C => CL.conv (CL.fm (f := fun p : Int × Ent => entD p.2) (g := fun p : Int × Ent => if (p.2.cal.foldl (fun s q => s + q.2) 0 != p.2.nc) = true then some (entD p.2) else none) (fun it acc => turn_one _ _ _ _ _ _ it acc _) (profOf (numsOf l)) (fun p _ => ⟨_, .name rfl, sub_new sub_refl rfl, .one (EB.conv (.cmp (.call T (c_count W (n := 0)) rfl (by omega) (.cons (.itemT (.name (d := entD p.2) rfl) .int (by decide) (by decide) rfl) .nil) ⟨p.2.cal, rfl, rfl⟩) (.itemT (d := .int p.2.nc) (.name (d := entD p.2) rfl) .int (by decide) (by decide) rfl) .neInt) ?_), fun v hv => ?_⟩)) (nil_ent _ _ fun p hp => by rw [P.cnts p hp]; simp)) (by simp)) (.list .nil) (.neData rfl rfl (by decide))) rfl) (fun h => nomatch h) (fun _ => EX.nil)) ?_
  · by_cases h : (p.2.cal.foldl (fun s q => s + q.2) 0 != p.2.nc) = true
    · rw [if_pos h]; exact h
    · rw [if_neg h]; simpa using h
  · by_cases h : (p.2.cal.foldl (fun s q => s + q.2) 0 != p.2.nc) = true
    · rw [if_pos h] at hv; cases hv; exact .name rfl
    · rw [if_neg h] at hv; cases hv
  refine EX.cons (ST.assign (d := .list (pairs6.map pgD)) (.call T (c_pairs W (n := 0) 6 (Nat.le_refl _)) rfl (by omega) (.cons (.list (.cons .int (.cons .int (.cons .int (.cons .int (.cons .int (.cons .int .nil))))))) .nil) ⟨[0, 1, 2, 3, 4, 5], by decide, by decide, rfl, rfl⟩) (.inl rfl) noOwn) ?_
  refine EX.cons (ST.assignComp (ρc := [("numbers", .list ((numsOf l).map natD))]) (ys := turns6.map natD) rfl (EI.list (.name rfl)) (.of rfl rfl rfl (by decide)) (.cons rfl rfl (.inl rfl) .nil)
    (fun C => CL.conv (CL.fm (f := pgD) (g := fun pg => some (natD (turnN pg))) (fun it acc => turn_one _ _ _ _ _ _ it acc _) pairs6 (fun pg hpg => ⟨_, .name rfl, sub_new sub_refl rfl, .nil, fun v hv => by
      cases hv
      exact .call T (c_turned W (c_checkG W (n := 2) (Nat.le_refl _))) rfl (by omega) (.cons (.name rfl) (.cons (.cmp (.fmodN (b := 2) (a := (numsOf l).sum) (.callB T rfl W.sum (.cons (.name rfl) .nil) (sum_natD lt ln)) .int (by decide)) .int .eqInt) .nil)) ⟨pg, _, List.all_eq_true.mp pairs_ok pg hpg, rfl, rfl⟩⟩)) (by rw [filterMap_some']; unfold turns6; rw [List.map_map]; rfl)) (by simp [turns6, pairs_len]) (.inl rfl) noOwn) ?_
  refine EX.cons (ST.if_ (b := false) (EB.conv (.cmp (.name rfl) (.comp (ρc := []) (ys := turns6.map natD) (EI.list (.name rfl)) (.of rfl rfl rfl (by decide)) .nil
    (fun C => CL.conv (CL.fm (f := pgD) (g := fun pg => some (natD (invs pg))) (fun it acc => turn_one _ _ _ _ _ _ it acc _) pairs6 (fun pg hpg => ⟨_, .name rfl, sub_new sub_refl rfl, .nil, fun v hv => by
      cases hv
      exact .call T (c_invs W (n := 0)) rfl (by omega) (.cons (.name rfl) .nil) ⟨pg, by have := List.all_eq_true.mp pairs_three pg hpg; simp at this; omega, rfl, rfl⟩⟩)) (by rw [filterMap_some', turns_invs, List.map_map]; rfl)) (by simp [turns6, pairs_len])) (.neData lay15 lay15 (by rw [Nat.min_self]; exact depth_list (f := natD) _ fun _ _ => by simp [natD, PyData.depth]))) (by rw [lay_refl lay15]; rfl)) (fun h => nomatch h) (fun _ => EX.nil)) ?_
  refine EX.conv (EX.one (ST.ret (.cmp (a := .int (sumOf (numsOf l) ^ 2)) (b := .int (detOf (numsOf l))) (.pow (a := sumOf (numsOf l)) (b := 2) (.call T (c_count W (n := 0)) rfl (by omega) (.cons (.call T (c_worths W (n := 0)) rfl (by omega) (.cons (.name rfl) (.cons (.name rfl) (.cons (.name rfl) .nil))) ⟨_, pairs6, turns6, by rw [pairs_len]; decide, by simp [turns6], P.nets, rfl, rfl⟩) .nil) ⟨_, rfl, rfl⟩) .int (by decide) (powOk P.big)) (.call T (c_det W (n := 0)) rfl (by omega) (.cons (.name rfl) .nil) ⟨numsOf l, ln, rfl, rfl⟩) .eqInt))) ?_
  rw [P.det]; simp
end
end Mine

namespace Mine

abbrev RowF := Nat → Int
/-- the expansion along a row -/
noncomputable def Lx : (Nat → List Nat → Int) → List Nat → Int
  | _, [] => 0
  | g, c :: cs => g c cs - Lx (fun d ds => g d (c :: ds)) cs
/-- the determinant of rows at columns -/
noncomputable def Dt : List RowF → List Nat → Int
  | [], _ => 1
  | r :: rs, cols => Lx (fun c rest => r c * Dt rs rest) cols

theorem Lx_lin (a b : Int) : ∀ (cols : List Nat) (g h : Nat → List Nat → Int), Lx (fun c r => a * g c r + b * h c r) cols = a * Lx g cols + b * Lx h cols
  | [], g, h => by simp [Lx]
  | c :: cs, g, h => by
    unfold Lx
    rw [Lx_lin a b cs]
    grind
theorem Lx_congr : ∀ (cols : List Nat) {g h : Nat → List Nat → Int}, (∀ c rest, List.Perm (c :: rest) cols → g c rest = h c rest) → Lx g cols = Lx h cols
  | [], _, _, _ => rfl
  | c :: cs, g, h, e => by
    unfold Lx
    rw [e c cs (.refl _), Lx_congr cs fun d ds q => e d (c :: ds) ((List.Perm.swap c d ds).trans (q.cons c))]
theorem Lx_zero (cols : List Nat) {g : Nat → List Nat → Int} (e : ∀ c rest, List.Perm (c :: rest) cols → g c rest = 0) : Lx g cols = 0 := by
  rw [Lx_congr cols (h := fun c r => 0 * g c r + 0 * g c r) fun c rest q => by rw [e c rest q]; rfl, Lx_lin]
  simp
theorem Lx_smul (a : Int) (cols : List Nat) (g : Nat → List Nat → Int) : a * Lx g cols = Lx (fun c r => a * g c r) cols := by
  have := Lx_lin a 0 cols g g
  simp at this
  exact this.symm
theorem Lx_sub (cols : List Nat) (g h : Nat → List Nat → Int) : Lx (fun c r => g c r - h c r) cols = Lx g cols - Lx h cols := by
  have := Lx_lin 1 (-1) cols g h
  rw [Lx_congr cols (h := fun c r => 1 * g c r + -1 * h c r) fun c rest _ => by omega, this]
  omega
theorem Lx_anti : ∀ (cols : List Nat) (G : Nat → Nat → List Nat → Int), Lx (fun c rest => Lx (G c) rest) cols = - Lx (fun c rest => Lx (fun d ds => G d c ds) rest) cols
  | [], G => rfl
  | c :: cs, G => by
    have ih := Lx_anti cs fun d e es => G d e (c :: es)
    unfold Lx
    rw [show Lx (fun d ds => Lx (G d) (c :: ds)) cs = Lx (fun d ds => G d c ds - Lx (fun e es => G d e (c :: es)) ds) cs from rfl]
    rw [show Lx (fun d ds => Lx (fun e es => G e d es) (c :: ds)) cs = Lx (fun d ds => G c d ds - Lx (fun e es => G e d (c :: es)) ds) cs from rfl]
    rw [Lx_sub, Lx_sub]
    have key : ∀ a b u v : Int, u = -v → a - (b - u) = -(b - (a - v)) := by intro a b u v q; omega
    exact key _ _ _ _ ih
theorem Dt_lin (a b : Int) (r s : RowF) (B : List RowF) : ∀ (A : List RowF) (cols : List Nat), Dt (A ++ (fun j => a * r j + b * s j) :: B) cols = a * Dt (A ++ r :: B) cols + b * Dt (A ++ s :: B) cols
  | [], cols => by
    show Lx _ cols = a * Lx _ cols + b * Lx _ cols
    rw [← Lx_lin]
    exact Lx_congr cols fun c rest _ => by grind
  | t :: A, cols => by
    show Lx _ cols = a * Lx _ cols + b * Lx _ cols
    rw [← Lx_lin]
    refine Lx_congr cols fun c rest _ => ?_
    show t c * Dt (A ++ _) rest = a * (t c * Dt (A ++ _) rest) + b * (t c * Dt (A ++ _) rest)
    rw [Dt_lin a b r s B A rest]
    grind
theorem Dt_swap (r s : RowF) (B : List RowF) : ∀ (A : List RowF) (cols : List Nat), Dt (A ++ r :: s :: B) cols = - Dt (A ++ s :: r :: B) cols
  | [], cols => by
    show Lx (fun c rest => r c * Lx (fun d ds => s d * Dt B ds) rest) cols = - Lx (fun c rest => s c * Lx (fun d ds => r d * Dt B ds) rest) cols
    have h := Lx_anti cols fun c d ds => r c * (s d * Dt B ds)
    rw [Lx_congr cols (h := fun c rest => Lx (fun d ds => r c * (s d * Dt B ds)) rest) fun c rest _ => Lx_smul _ _ _, h]
    rw [Lx_congr cols (g := fun c rest => s c * Lx (fun d ds => r d * Dt B ds) rest) (h := fun c rest => Lx (fun d ds => r d * (s c * Dt B ds)) rest) fun c rest _ => by
      rw [Lx_smul]; exact Lx_congr rest fun d ds _ => by grind]
  | t :: A, cols => by
    show Lx (fun c rest => t c * Dt (A ++ r :: s :: B) rest) cols = - Lx (fun c rest => t c * Dt (A ++ s :: r :: B) rest) cols
    have := Lx_smul (-1) cols fun c rest => t c * Dt (A ++ s :: r :: B) rest
    rw [show - Lx (fun c rest => t c * Dt (A ++ s :: r :: B) rest) cols = -1 * Lx (fun c rest => t c * Dt (A ++ s :: r :: B) rest) cols by omega, this]
    refine Lx_congr cols fun c rest _ => ?_
    show t c * Dt (A ++ _) rest = _
    rw [Dt_swap r s B A rest]
    grind
theorem Dt_rep (r : RowF) (B : List RowF) : ∀ (M A : List RowF) (cols : List Nat), Dt (A ++ r :: (M ++ r :: B)) cols = 0
  | [], A, cols => by
    have := Dt_swap r r B A cols
    show Dt (A ++ r :: r :: B) cols = 0
    omega
  | m :: M, A, cols => by
    have h := Dt_swap r m (M ++ r :: B) A cols
    have ih := Dt_rep r B M (A ++ [m]) cols
    rw [List.append_assoc] at ih
    show Dt (A ++ r :: m :: (M ++ r :: B)) cols = 0
    have ih' : Dt (A ++ m :: r :: (M ++ r :: B)) cols = 0 := ih
    omega
theorem Dt_far (r s : RowF) (B M A : List RowF) (cols : List Nat) : Dt (A ++ r :: (M ++ s :: B)) cols = - Dt (A ++ s :: (M ++ r :: B)) cols := by
  have h0 := Dt_rep (fun j => 1 * r j + 1 * s j) B M A cols
  rw [Dt_lin] at h0
  have e : ∀ x y : RowF, A ++ x :: (M ++ y :: B) = (A ++ x :: M) ++ y :: B := fun x y => by simp
  rw [e, e, Dt_lin, Dt_lin, ← e, ← e, ← e, ← e, Dt_rep, Dt_rep] at h0
  omega
theorem Dt_pigeon (z : Nat → Bool) (B : List RowF) (hB : ∀ b ∈ B, ∀ c, z c = true → b c = 0) : ∀ (A : List RowF) (cols : List Nat), A.length < (cols.filter z).length → cols.length = A.length + B.length → Dt (A ++ B) cols = 0
  | [], cols, h, hl => by
    show Dt B cols = 0
    induction B generalizing cols with
    | nil =>
      have : cols = [] := List.eq_nil_of_length_eq_zero (by simpa using hl)
      subst this; simp at h
    | cons b B ih =>
      refine Lx_zero cols fun c rest q => ?_
      have hf := (q.filter z).length_eq
      have hl' := q.length_eq
      cases hz : z c with
      | true => show b c * _ = 0; rw [hB b (.head _) c hz]; simp
      | false =>
        show b c * Dt B rest = 0
        rw [List.filter_cons, hz] at hf
        simp only [Bool.false_eq_true, if_false] at hf
        rw [List.length_cons] at hl hl'
        rw [ih (fun b' hb' => hB b' (.tail _ hb')) rest (by rw [hf]; exact h) (by omega)]
        simp
  | a :: A, cols, h, hl => by
    refine Lx_zero cols fun c rest q => ?_
    have hf := (q.filter z).length_eq
    have hl' := q.length_eq
    have ih := Dt_pigeon z B hB A rest (by
      rw [List.filter_cons] at hf
      cases hz : z c <;> simp [hz] at hf h ⊢ <;> omega) (by simp at hl hl' ⊢; omega)
    show a c * Dt (A ++ B) rest = 0
    rw [ih]; simp
theorem Lx_snoc (j : Nat) : ∀ C : List Nat, ∃ e : Int, ∀ g, Lx g (C ++ [j]) = Lx (fun c rest => g c (rest ++ [j])) C + e * g j C
  | [] => ⟨1, fun g => by simp [Lx]⟩
  | c :: C => by
    obtain ⟨e, h⟩ := Lx_snoc j C
    refine ⟨-e, fun g => ?_⟩
    have := h fun d ds => g d (c :: ds)
    show g c (C ++ [j]) - Lx (fun d ds => g d (c :: ds)) (C ++ [j]) = g c (C ++ [j]) - Lx (fun d ds => g d (c :: ds ++ [j])) C + _
    rw [this]
    simp only [List.cons_append, Int.neg_mul]
    omega
theorem Dt_block (x : RowF) (j : Nat) : ∀ (P : List RowF) (C : List Nat), P.length = C.length → (∀ c ∈ C, x c = 0) → Dt (P ++ [x]) (C ++ [j]) = Dt P C * x j
  | [], C, hl, h => by
    have : C = [] := List.eq_nil_of_length_eq_zero hl.symm
    subst this
    simp [Dt, Lx]
  | r :: P, C, hl, h => by
    obtain ⟨e, he⟩ := Lx_snoc j C
    show Lx (fun c rest => r c * Dt (P ++ [x]) rest) (C ++ [j]) = Lx (fun c rest => r c * Dt P rest) C * x j
    rw [he, Dt_pigeon (fun c => decide (c ∈ C)) [x] (by intro b hb c hc; simp at hb hc; rw [hb]; exact h c hc) P C (by rw [List.filter_eq_self.mpr (by intro a ha; simpa using ha)]; simp at hl; omega) (by simp at hl ⊢; omega)]
    rw [Int.mul_comm (Lx _ C) (x j), Lx_smul, Int.mul_zero, Int.mul_zero, Int.add_zero]
    refine Lx_congr C fun c rest q => ?_
    rw [Dt_block x j P rest (by have := q.length_eq; simp at this hl; omega) fun d hd => h d (q.subset (.tail _ hd))]
    grind

/-- a row that the rows of P span: it adds nothing behind them -/
noncomputable def Comb (P : List RowF) (f : RowF) : Prop := ∀ U V cols, Dt (P ++ (U ++ f :: V)) cols = 0
theorem Comb.lin {P : List RowF} {f g h : RowF} (a b : Int) (hf : Comb P f) (hg : Comb P g) (e : ∀ j, h j = a * f j + b * g j) : Comb P h := fun U V cols => by
  have : h = fun j => a * f j + b * g j := funext e
  rw [this, ← List.append_assoc, Dt_lin, List.append_assoc, List.append_assoc, hf U V cols, hg U V cols]
  simp
theorem Comb.up {P : List RowF} {f r : RowF} (h : Comb P f) : Comb (P ++ [r]) f := fun U V cols => by
  have := h (r :: U) V cols
  simpa using this
theorem Comb.own {P : List RowF} {r : RowF} : Comb (P ++ [r]) r := fun U V cols => by
  have := Dt_rep r V U P cols
  simpa using this
theorem Comb.repl {P : List RowF} {M R : RowF} {q z : Int} (h : Comb P fun j => q * M j - z * R j) (U V : List RowF) (cols : List Nat) : q * Dt (P ++ (U ++ M :: V)) cols = z * Dt (P ++ (U ++ R :: V)) cols := by
  have h1 := h U V cols
  rw [show (fun j => q * M j - z * R j) = fun j => q * M j + (-z) * R j from funext fun j => by grind, ← List.append_assoc, Dt_lin, List.append_assoc, List.append_assoc] at h1
  rw [Int.neg_mul] at h1
  omega
end Mine

namespace Mine

theorem mget_out {M : Mx6} (sh : Sh M) {i j : Nat} (hj : 6 ≤ j) : mget M i j = 0 := by
  unfold mget
  by_cases hi : i < 6
  · have := (sh.row hi).2
    simp [List.getD, List.getElem?_eq_none (show (mrow M i).length ≤ j by omega)]
  · have : mrow M i = [] := by simp [mrow, List.getD, List.getElem?_eq_none (show M.length ≤ i by rw [sh.1]; omega)]
    rw [this]; rfl
noncomputable def Mv (k : Nat) (M : Mx6) (i : Nat) : RowF := fun j => if j < k then 0 else mget M i j
noncomputable def swapR (R : Nat → RowF) (k f : Nat) : Nat → RowF := fun i => if i = f then R k else if i = k then R f else R i
structure Inv (k : Nat) (R : Nat → RowF) (M : Mx6) (turn last d0 : Int) : Prop where
  sh : Sh M
  piv : last = Dt ((List.range k).map R) (List.range k)
  nz : last ≠ 0
  comb : ∀ i, k ≤ i → i < 6 → ∃ q : Int, q ≠ 0 ∧ Comb ((List.range k).map R) fun j => q * Mv k M i j - (q * last) * R i j
  det : turn * Dt ((List.range 6).map R) (List.range 6) = d0

theorem far6 (R : Nat → RowF) {k f : Nat} (h : k < f) (hf : f < 6) : Dt ((List.range 6).map (swapR R k f)) (List.range 6) = - Dt ((List.range 6).map R) (List.range 6) := by
  have key := Dt_far (R f) (R k) ((List.range (5 - f)).map fun t => R (f + 1 + t)) ((List.range (f - k - 1)).map fun t => R (k + 1 + t)) ((List.range k).map R) (List.range 6)
  have hf' : f = 1 ∨ f = 2 ∨ f = 3 ∨ f = 4 ∨ f = 5 := by omega
  have hk' : k = 0 ∨ k = 1 ∨ k = 2 ∨ k = 3 ∨ k = 4 := by omega
  rcases hf' with rfl | rfl | rfl | rfl | rfl <;> rcases hk' with rfl | rfl | rfl | rfl | rfl <;> first | omega | exact key
theorem swapR_self (R : Nat → RowF) (k : Nat) : swapR R k k = R := by
  funext i
  unfold swapR
  split
  · rename_i h; rw [h]
  · rfl
theorem swapR_low (R : Nat → RowF) {k f : Nat} (h : k ≤ f) : (List.range k).map (swapR R k f) = (List.range k).map R := by
  refine List.map_congr_left fun i hi => ?_
  have := List.mem_range.mp hi
  unfold swapR
  rw [if_neg (by omega), if_neg (by omega)]
theorem Inv.swap {k f : Nat} {R : Nat → RowF} {M : Mx6} {turn last d0 : Int} (h : Inv k R M turn last d0) (hk : k ≤ f) (hf : f < 6) : Inv k (swapR R k f) (pivM M k f) (pivT turn k f) last d0 := by
  by_cases e : f = k
  · subst e
    rw [swapR_self]
    unfold pivM pivT
    simpa using h
  · have hlt : k < f := by omega
    have hp : pivM M k f = mswap M k f := by unfold pivM; simp [e]
    have ht : pivT turn k f = -turn := by unfold pivT; simp [e]
    rw [hp, ht]
    have hm := mget_mswap h.sh (show k < 6 by omega) hf
    have hv : ∀ i, Mv k (mswap M k f) i = if i = f then Mv k M k else if i = k then Mv k M f else Mv k M i := by
      intro i
      funext j
      by_cases hj : j < k
      · have z : ∀ (M : Mx6) i, Mv k M i j = 0 := fun M i => by unfold Mv; rw [if_pos hj]
        rw [z]
        split
        · rw [z]
        · split <;> rw [z]
      · have z : ∀ (M : Mx6) i, Mv k M i j = mget M i j := fun M i => by unfold Mv; rw [if_neg hj]
        rw [z, hm]
        split
        · rw [z]
        · split <;> rw [z]
    refine ⟨h.sh.swap (by omega) hf, by rw [swapR_low R hk]; exact h.piv, h.nz, fun i h1 h2 => ?_, by rw [far6 R hlt hf, Int.neg_mul_neg]; exact h.det⟩
    rw [swapR_low R hk, hv]
    unfold swapR
    split
    · exact h.comb k (Nat.le_refl _) (by omega)
    · split
      · exact h.comb f hk hf
      · exact h.comb i h1 h2

theorem Inv.val {k : Nat} {R : Nat → RowF} {M : Mx6} {turn last d0 : Int} (h : Inv k R M turn last d0) {i j : Nat} (hi : k ≤ i) (hi6 : i < 6) (hj : k ≤ j) : mget M i j = Dt ((List.range k).map R ++ [R i]) (List.range k ++ [j]) := by
  obtain ⟨q, hq, hc⟩ := h.comb i hi hi6
  have h1 := hc.repl [] [] (List.range k ++ [j])
  simp only [List.nil_append] at h1
  rw [Dt_block (Mv k M i) j _ _ (by simp) (fun c hc => by unfold Mv; rw [if_pos (List.mem_range.mp hc)]), ← h.piv] at h1
  have hm : Mv k M i j = mget M i j := by unfold Mv; rw [if_neg (by omega)]
  rw [hm, ← Int.mul_assoc] at h1
  exact Int.eq_of_mul_eq_mul_left (Int.mul_ne_zero hq h.nz) h1

theorem range_snoc (R : Nat → RowF) (k : Nat) : (List.range (k + 1)).map R = (List.range k).map R ++ [R k] := by rw [List.range_succ, List.map_append]; rfl

theorem Inv.step {k : Nat} {R : Nat → RowF} {M : Mx6} {turn last d0 : Int} (h : Inv k R M turn last d0) (hk : k ≤ 4) (hz : mget M k k ≠ 0) : Inv (k + 1) R (stage M k last) turn (mget M k k) d0 := by
  have hk6 : k < 6 := by omega
  have sh' : Sh (stage M k last) := stage_sh h.sh hk6
  have piv' : mget M k k = Dt ((List.range (k + 1)).map R) (List.range (k + 1)) := by
    rw [range_snoc, List.range_succ]
    exact h.val (Nat.le_refl _) hk6 (Nat.le_refl _)
  refine ⟨sh', piv', hz, fun i h1 h2 => ?_, h.det⟩
  obtain ⟨qk, hqk, ck⟩ := h.comb k (Nat.le_refl _) hk6
  obtain ⟨qi, hqi, ci⟩ := h.comb i (by omega) h2
  let N : RowF := fun j => mget M k k * Mv k M i j - mget M i k * Mv k M k j
  have hkk : Mv k M k k = mget M k k := by unfold Mv; rw [if_neg (by omega)]
  have hik : Mv k M i k = mget M i k := by unfold Mv; rw [if_neg (by omega)]
  have hN0 : ∀ c ∈ List.range (k + 1), N c = 0 := fun c hc => by
    have hc := List.mem_range.mp hc
    show mget M k k * Mv k M i c - mget M i k * Mv k M k c = 0
    by_cases e : c = k
    · subst e
      rw [hkk, hik, Int.mul_comm]; omega
    · have : c < k := by omega
      simp [Mv, this]
  have cN : Comb ((List.range (k + 1)).map R) fun j => (qi * qk) * N j - (qi * qk * (last * mget M k k)) * R i j := by
    rw [range_snoc]
    have a := Comb.lin (mget M k k * qk) (-(mget M i k * qi)) (ci.up (r := R k)) (ck.up (r := R k)) fun j => rfl
    refine Comb.lin 1 (-(mget M i k * qi * qk * last)) a (Comb.own (r := R k)) fun j => ?_
    show (qi * qk) * (mget M k k * Mv k M i j - mget M i k * Mv k M k j) - (qi * qk * (last * mget M k k)) * R i j = _
    grind
  have ex : ∀ j, N j = last * Dt ((List.range (k + 1)).map R ++ [R i]) (List.range (k + 1) ++ [j]) := fun j => by
    have h1 := cN.repl [] [] (List.range (k + 1) ++ [j])
    simp only [List.nil_append] at h1
    rw [Dt_block N j _ _ (by simp) hN0, ← piv', ← Int.mul_assoc, Int.mul_assoc (qi * qk) _ (Dt _ _), Int.mul_assoc (qi * qk), ] at h1
    have h2 := Int.eq_of_mul_eq_mul_left (Int.mul_ne_zero hqi hqk) h1
    refine Int.eq_of_mul_eq_mul_left hz ?_
    rw [h2]
    grind
  have hM' : ∀ j, last * Mv (k + 1) (stage M k last) i j = N j := fun j => by
    by_cases hj : j < k + 1
    · rw [hN0 j (List.mem_range.mpr hj)]
      unfold Mv
      rw [if_pos hj]; simp
    · have e1 : Mv (k + 1) (stage M k last) i j = mget (stage M k last) i j := by unfold Mv; rw [if_neg hj]
      have e2 : N j = mget M k k * mget M i j - mget M i k * mget M k j := by
        show mget M k k * Mv k M i j - mget M i k * Mv k M k j = _
        unfold Mv
        rw [if_neg (by omega), if_neg (by omega)]
      rw [e1]
      by_cases hj6 : j < 6
      · have e3 : cellN M k last i j = (N j).fdiv last := by unfold cellN; rw [e2, Int.mul_comm (mget M i j)]
        rw [stage_get h.sh hk6, if_pos ⟨⟨by omega, h2⟩, by omega, hj6⟩, e3, ex j, Int.mul_comm last (Dt _ _), Int.mul_fdiv_cancel _ h.nz, Int.mul_comm]
      · rw [e2, mget_out h.sh (i := i) (j := j) (by omega), mget_out h.sh (i := k) (j := j) (by omega), mget_out sh' (i := i) (j := j) (by omega)]
        simp
  refine ⟨qi * qk * last, Int.mul_ne_zero (Int.mul_ne_zero hqi hqk) h.nz, ?_⟩
  have e : (fun j => qi * qk * last * Mv (k + 1) (stage M k last) i j - qi * qk * last * mget M k k * R i j) = fun j => (qi * qk) * N j - (qi * qk * (last * mget M k k)) * R i j := by
    funext j
    rw [← hM' j]
    grind
  rw [e]; exact cN

theorem Inv.repl {k : Nat} {R : Nat → RowF} {M : Mx6} {turn last d0 : Int} (h : Inv k R M turn last d0) (cols : List Nat) : ∀ (is : List Nat), (∀ i ∈ is, k ≤ i ∧ i < 6) → ∀ U, ∃ a b : Int, a ≠ 0 ∧ b ≠ 0 ∧ a * Dt ((List.range k).map R ++ (U ++ is.map (Mv k M))) cols = b * Dt ((List.range k).map R ++ (U ++ is.map R)) cols
  | [], _, U => ⟨1, 1, by decide, by decide, rfl⟩
  | i :: is, hi, U => by
    obtain ⟨q, hq, hc⟩ := h.comb i (hi i (.head _)).1 (hi i (.head _)).2
    have h1 := hc.repl U (is.map (Mv k M)) cols
    obtain ⟨a, b, ha, hb, h2⟩ := h.repl cols is (fun i' h' => hi i' (.tail _ h')) (U ++ [R i])
    have ea : ∀ x : List RowF, U ++ [R i] ++ x = U ++ R i :: x := fun x => by simp
    rw [ea, ea] at h2
    refine ⟨a * q, q * last * b, Int.mul_ne_zero ha hq, Int.mul_ne_zero (Int.mul_ne_zero hq h.nz) hb, ?_⟩
    show a * q * Dt ((List.range k).map R ++ (U ++ Mv k M i :: is.map (Mv k M))) cols = q * last * b * Dt ((List.range k).map R ++ (U ++ R i :: is.map R)) cols
    rw [Int.mul_assoc, h1, Int.mul_assoc (q * last), ← h2]
    grind
theorem Inv.none {k : Nat} {R : Nat → RowF} {M : Mx6} {turn last d0 : Int} (h : Inv k R M turn last d0) (hk : k ≤ 4) (hz : ∀ i, k ≤ i → i < 6 → mget M i k = 0) : d0 = 0 := by
  have hm : ∀ i ∈ (List.range (6 - k)).map (k + ·), k ≤ i ∧ i < 6 := fun i hi => by
    obtain ⟨t, ht, rfl⟩ := List.mem_map.mp hi
    have := List.mem_range.mp ht
    omega
  obtain ⟨a, b, ha, hb, h1⟩ := h.repl (List.range 6) ((List.range (6 - k)).map (k + ·)) hm []
  simp only [List.nil_append] at h1
  have hs : (List.range k).map R ++ ((List.range (6 - k)).map (k + ·)).map R = (List.range 6).map R := by
    rw [← List.map_append]
    congr 1
    have : k = 0 ∨ k = 1 ∨ k = 2 ∨ k = 3 ∨ k = 4 := by omega
    rcases this with rfl | rfl | rfl | rfl | rfl <;> rfl
  have hp : Dt ((List.range k).map R ++ ((List.range (6 - k)).map (k + ·)).map (Mv k M)) (List.range 6) = 0 := by
    refine Dt_pigeon (fun c => decide (c ≤ k)) _ (fun r hr c hc => ?_) _ _ ?_ ?_
    · obtain ⟨i, hi, rfl⟩ := List.mem_map.mp hr
      have hc : c ≤ k := by simpa using hc
      unfold Mv
      split
      · rfl
      · rw [show c = k by omega]; exact hz i (hm i hi).1 (hm i hi).2
    · rw [List.length_map]
      have : k = 0 ∨ k = 1 ∨ k = 2 ∨ k = 3 ∨ k = 4 := by omega
      rcases this with rfl | rfl | rfl | rfl | rfl <;> decide
    · simp; omega
  rw [hp, hs, Int.mul_zero] at h1
  have : Dt ((List.range 6).map R) (List.range 6) = 0 := by
    rcases Int.mul_eq_zero.mp h1.symm with q | q
    · exact absurd q hb
    · exact q
  rw [← h.det, this, Int.mul_zero]

theorem elimR_inv : ∀ (n k : Nat) (R : Nat → RowF) (M : Mx6) (turn last d0 : Int), k + n = 5 → Inv k R M turn last d0 → (match elimR (List.range' k n) M turn last with | .none => (0 : Int) | some (M, turn, _) => turn * mget M 5 5) = d0
  | 0, k, R, M, turn, last, d0, hk, h => by
    have hk : k = 5 := by omega
    subst hk
    show turn * mget M 5 5 = d0
    rw [h.val (Nat.le_refl _) (by decide) (Nat.le_refl _), ← h.det]
    rfl
  | n + 1, k, R, M, turn, last, d0, hk, h => by
    rw [List.range'_succ]
    unfold elimR
    cases hf : foundL M k with
    | nil =>
      show (0 : Int) = d0
      refine (h.none (by omega) fun i h1 h2 => ?_).symm
      have := List.filter_eq_nil_iff.mp hf i (List.mem_map.mpr ⟨i - k, List.mem_range.mpr (by omega), by omega⟩)
      simpa using this
    | cons f r =>
      have hm : f ∈ foundL M k := by rw [hf]; exact .head _
      obtain ⟨hm, hz⟩ := List.mem_filter.mp hm
      obtain ⟨t, ht, rfl⟩ := List.mem_map.mp hm
      have ht := List.mem_range.mp ht
      have hs := h.swap (f := k + t) (by omega) (by omega)
      have hkk := pivM_kk h.sh (show k < 6 by omega) (show k + t < 6 by omega)
      exact elimR_inv n (k + 1) _ _ _ _ d0 (by omega) (hs.step (by omega) (by rw [hkk]; simpa using hz))

theorem netM_sh : ∀ (ms : List Nat) {M : Mx6}, Sh M → Sh (ms.foldl addNet M)
  | [], _, h => h
  | m :: ms, M, h => netM_sh ms (addNet_sh h m)
/-- the elimination finds the determinant -/
theorem detOf_eq (ms : List Nat) : detOf ms = Dt ((List.range 6).map (mget (netM ms))) (List.range 6) := by
  have h : Inv 0 (mget (netM ms)) (netM ms) 1 1 (Dt ((List.range 6).map (mget (netM ms))) (List.range 6)) := by
    refine ⟨netM_sh ms M0_sh, rfl, by decide, fun i _ _ => ⟨1, by decide, fun U V cols => ?_⟩, by rw [Int.one_mul]⟩
    have : (fun j => 1 * Mv 0 (netM ms) i j - 1 * 1 * mget (netM ms) i j) = fun j => 0 * Mv 0 (netM ms) i j + 0 * Mv 0 (netM ms) i j := by
      funext j; simp [Mv]
    rw [this, ← List.append_assoc, Dt_lin]
    simp
  exact elimR_inv 5 0 _ _ _ _ _ rfl h
end Mine

namespace Mine

/-- sums of signed products of unknowns -/
abbrev Pol := List (Int × List Nat)
noncomputable def evM (v : Nat → Int) (m : List Nat) : Int := m.foldr (fun i a => v i * a) 1
noncomputable def evP (v : Nat → Int) (p : Pol) : Int := p.foldr (fun t a => t.1 * evM v t.2 + a) 0
noncomputable def insV (i : Nat) : List Nat → List Nat
  | [] => [i]
  | j :: m => if Nat.ble i j then i :: j :: m else j :: insV i m
theorem evM_ins (v : Nat → Int) (i : Nat) : ∀ m, evM v (insV i m) = v i * evM v m
  | [] => rfl
  | j :: m => by
    unfold insV
    split
    · rfl
    · show v j * evM v (insV i m) = v i * (v j * evM v m)
      rw [evM_ins v i m]; grind
noncomputable def mulM (a b : List Nat) : List Nat := a.foldr insV b
theorem evM_mul (v : Nat → Int) : ∀ a b, evM v (mulM a b) = evM v a * evM v b
  | [], b => by simp [mulM, evM]
  | i :: a, b => by
    show evM v (insV i (mulM a b)) = (v i * evM v a) * evM v b
    rw [evM_ins, evM_mul v a b]; grind
theorem evP_app (v : Nat → Int) : ∀ p q, evP v (p ++ q) = evP v p + evP v q
  | [], q => by simp [evP]
  | t :: p, q => by
    show t.1 * evM v t.2 + evP v (p ++ q) = t.1 * evM v t.2 + evP v p + evP v q
    rw [evP_app v p q]; omega
noncomputable def mulT (c : Int) (m : List Nat) (p : Pol) : Pol := p.map fun t => (c * t.1, mulM m t.2)
theorem evP_mulT (v : Nat → Int) (c : Int) (m : List Nat) : ∀ p, evP v (mulT c m p) = c * evM v m * evP v p
  | [] => by simp [mulT, evP]
  | t :: p => by
    show c * t.1 * evM v (mulM m t.2) + evP v (mulT c m p) = c * evM v m * (t.1 * evM v t.2 + evP v p)
    rw [evP_mulT v c m p, evM_mul]; grind
noncomputable def mulP (p q : Pol) : Pol := p.flatMap fun t => mulT t.1 t.2 q
theorem evP_mul (v : Nat → Int) (q : Pol) : ∀ p, evP v (mulP p q) = evP v p * evP v q
  | [] => by simp [mulP, evP]
  | t :: p => by
    show evP v (mulT t.1 t.2 q ++ mulP p q) = (t.1 * evM v t.2 + evP v p) * evP v q
    rw [evP_app, evP_mulT, evP_mul v q p]; grind
noncomputable def eqM : List Nat → List Nat → Bool
  | [], [] => true
  | a :: x, b :: y => Nat.beq a b && eqM x y
  | _, _ => false
theorem eqM_eq : ∀ {x y : List Nat}, eqM x y = true → x = y
  | [], [], _ => rfl
  | a :: x, b :: y, h => by
    have h := (Bool.and_eq_true _ _).mp h
    rw [Nat.eq_of_beq_eq_true h.1, eqM_eq h.2]
noncomputable def addT (c : Int) (m : List Nat) : Pol → Pol
  | [] => [(c, m)]
  | t :: p => match eqM t.2 m with
    | true => (c + t.1, m) :: p
    | false => t :: addT c m p
theorem evP_addT (v : Nat → Int) (c : Int) (m : List Nat) : ∀ p, evP v (addT c m p) = c * evM v m + evP v p
  | [] => rfl
  | t :: p => by
    unfold addT
    split
    · rename_i h
      show (c + t.1) * evM v m + evP v p = c * evM v m + (t.1 * evM v t.2 + evP v p)
      rw [eqM_eq h]; grind
    · show t.1 * evM v t.2 + evP v (addT c m p) = c * evM v m + (t.1 * evM v t.2 + evP v p)
      rw [evP_addT v c m p]; omega
noncomputable def normP (p : Pol) : Pol := p.foldl (fun a t => addT t.1 t.2 a) []
theorem evP_fold (v : Nat → Int) : ∀ (p a : Pol), evP v (p.foldl (fun a t => addT t.1 t.2 a) a) = evP v p + evP v a
  | [], a => by simp [evP]
  | t :: p, a => by
    show evP v (p.foldl _ (addT t.1 t.2 a)) = (t.1 * evM v t.2 + evP v p) + evP v a
    rw [evP_fold v p, evP_addT]; omega
noncomputable def zeroP (p : Pol) : Bool := (normP p).all fun t => t.1 == 0
theorem zeroP_ev (v : Nat → Int) {p : Pol} (h : zeroP p = true) : evP v p = 0 := by
  have h1 := evP_fold v p []
  have h2 : ∀ q : Pol, (q.all fun t => t.1 == 0) = true → evP v q = 0 := by
    intro q
    induction q with
    | nil => intro _; rfl
    | cons t q ih =>
      intro hq
      rw [List.all_cons, Bool.and_eq_true] at hq
      have : t.1 = 0 := by simpa using hq.1
      show t.1 * _ + evP v q = 0
      rw [this, ih hq.2]; simp
  have h3 := h2 _ h
  unfold normP at h3
  rw [h1] at h3
  simpa [evP] using h3

noncomputable def LxP : (Nat → List Nat → Pol) → List Nat → Pol
  | _, [] => []
  | g, c :: cs => g c cs ++ mulT (-1) [] (LxP (fun d ds => g d (c :: ds)) cs)
theorem evP_Lx (v : Nat → Int) : ∀ (cols : List Nat) (g : Nat → List Nat → Pol), evP v (LxP g cols) = Lx (fun c r => evP v (g c r)) cols
  | [], _ => rfl
  | c :: cs, g => by
    unfold LxP Lx
    rw [evP_app, evP_mulT, evP_Lx v cs]
    simp [evM]; omega
abbrev Ety := Option (Int × Nat)
noncomputable def evE (v : Nat → Int) : Ety → Int
  | none => 0
  | some (s, i) => s * v i
noncomputable def DtP : List (Nat → Ety) → List Nat → Pol
  | [], _ => [(1, [])]
  | r :: rs, cols => LxP (fun c rest => match r c with | none => [] | some (s, i) => mulT s [i] (DtP rs rest)) cols
theorem evP_Dt (v : Nat → Int) : ∀ (rs : List (Nat → Ety)) (cols : List Nat), evP v (DtP rs cols) = Dt (rs.map fun r c => evE v (r c)) cols
  | [], _ => by simp [DtP, Dt, evP, evM]
  | r :: rs, cols => by
    unfold DtP
    rw [evP_Lx]
    refine Lx_congr cols fun c rest _ => ?_
    show _ = evE v (r c) * Dt (rs.map _) rest
    rw [← evP_Dt v rs rest]
    cases r c with
    | none => simp [evP, evE]
    | some p =>
      show evP v (mulT p.1 [p.2] _) = p.1 * v p.2 * _
      rw [evP_mulT]
      simp [evM]
theorem Dt_congr {α : Type} {f g : α → RowF} : ∀ (l : List α) (cols : List Nat), (∀ a ∈ l, ∀ c ∈ cols, f a c = g a c) → Dt (l.map f) cols = Dt (l.map g) cols
  | [], _, _ => rfl
  | a :: l, cols, h => by
    refine Lx_congr cols fun c rest q => ?_
    show f a c * Dt (l.map f) rest = g a c * Dt (l.map g) rest
    rw [h a (.head _) c (q.subset (.head _)), Dt_congr l rest fun a' ha' c' hc' => h a' (.tail _ ha') c' (q.subset (.tail _ hc'))]
noncomputable def ent (i j : Nat) : Ety := if i = j then none else if i < j then some (1, 6 * i + j) else some (-1, 6 * j + i)
/-- a skew determinant is the square of the sum over the pairings -/
theorem skew_det {R : Nat → Nat → Int} (hs : ∀ i j, i < 6 → j < 6 → R i j = - R j i) {pf : Pol} (h : zeroP (DtP ((List.range 6).map ent) (List.range 6) ++ mulT (-1) [] (mulP pf pf)) = true) :
    Dt ((List.range 6).map R) (List.range 6) = evP (fun n => R (n / 6) (n % 6)) pf ^ 2 := by
  have h1 := zeroP_ev (fun n => R (n / 6) (n % 6)) h
  rw [evP_app, evP_mulT, evP_mul, evP_Dt, List.map_map] at h1
  have h2 : Dt ((List.range 6).map R) (List.range 6) = Dt ((List.range 6).map ((fun r c => evE (fun n => R (n / 6) (n % 6)) (r c)) ∘ ent)) (List.range 6) := by
    refine Dt_congr _ _ fun i hi j hj => ?_
    have hi := List.mem_range.mp hi
    have hj := List.mem_range.mp hj
    show R i j = evE _ (ent i j)
    unfold ent
    split
    · rename_i e; subst e
      have := hs i i hi hi
      show R i i = 0
      omega
    · split
      · show R i j = 1 * R ((6 * i + j) / 6) ((6 * i + j) % 6)
        rw [show (6 * i + j) / 6 = i by omega, show (6 * i + j) % 6 = j by omega, Int.one_mul]
      · show R i j = -1 * R ((6 * j + i) / 6) ((6 * j + i) % 6)
        rw [show (6 * j + i) / 6 = j by omega, show (6 * j + i) % 6 = i by omega, hs i j hi hj]; omega
  rw [h2, Int.pow_succ, Int.pow_succ, Int.pow_zero]
  simp [evM] at h1 ⊢
  omega
end Mine

namespace Mine

theorem aset_new {α : Type} : ∀ (l : List (Int × α)) (k : Int) (v : α), k ∉ l.map (·.1) → aset l k v = l ++ [(k, v)]
  | [], _, _, _ => rfl
  | (k', d) :: r, k, v, h => by
    simp at h
    unfold aset
    rw [if_neg (fun e => h.1 e.symm), aset_new r k v (by simpa using h.2)]; rfl
theorem put_all : ∀ (t l : List (Int × Int)), ((l ++ t).map (·.1)).Nodup → t.foldl putOne l = l ++ t
  | [], l, _ => by simp
  | p :: t, l, h => by
    have h2 : l ++ p :: t = l ++ [p] ++ t := by simp
    rw [List.foldl_cons]
    have : putOne l p = l ++ [p] := by
      unfold putOne
      rw [aset_new]
      rw [List.map_append, List.map_cons] at h
      intro hm
      exact (List.nodup_append.mp h).2.2 _ hm _ (.head _) rfl
    rw [this, put_all t (l ++ [p]) (by rw [← h2]; exact h), h2]
theorem merge_one {t : List (Int × Int)} (h : (t.map (·.1)).Nodup) (p : Nat × Nat) : merge t [((cal p.1 : Nat), (cnt p.1 : Nat))] = cstep t p := by
  unfold merge
  rw [put_all t [] (by simpa using h)]
  show addOne t _ = cstep t p
  unfold addOne cstep
  simp only
  cases aget t ((cal p.1 : Nat) : Int) <;> simp
theorem calOf_nodup : ∀ (L : List (Nat × Nat)) (l : List (Int × Int)), (l.map (·.1)).Nodup → ((L.foldl cstep l).map (·.1)).Nodup
  | [], _, h => h
  | p :: L, l, h => calOf_nodup L (cstep l p) (aset_nodup _ _ _ h)
noncomputable def total (l : List (Int × Int)) : Int := (l.map (·.2)).sum
theorem total_aset : ∀ (l : List (Int × Int)) (k v : Int), total (aset l k v) = total l - (aget l k).getD 0 + v
  | [], k, v => by simp [total, aset, aget]
  | (k', d) :: r, k, v => by
    unfold aset aget
    have ih := total_aset r k v
    unfold total at ih ⊢
    split
    · simp; omega
    · simp [ih]; omega
theorem led_snoc (L : List (Nat × Nat)) (p : Nat × Nat) : (entOf p).plus (ledEnt L) = ledEnt (L ++ [p]) := by
  have hc : calOf (L ++ [p]) = cstep (calOf L) p := by unfold calOf; rw [List.foldl_append]; rfl
  have hm : merge (calOf L) (entOf p).cal = calOf (L ++ [p]) := by
    rw [hc]; exact merge_one (calOf_nodup L [] List.nodup_nil) p
  have ht : total (calOf (L ++ [p])) = cnt p.1 + total (calOf L) := by
    rw [hc]; unfold cstep
    rw [total_aset]; omega
  unfold Ent.plus
  show Ent.mk _ _ _ _ (merge (calOf L) (entOf p).cal) = _
  rw [hm]
  unfold total at ht
  simp only [ledEnt, entOf, List.length_append, List.map_append, List.sum_append, List.map_cons, List.map_nil, List.sum_cons, List.sum_nil, ht]
  congr 1 <;> simp <;> omega
noncomputable def ownP (zs : List (Nat × Nat)) (who : Nat) : List (Nat × Nat) := zs.filter fun p => cld p.1 == who
structure PInv (pre : List (Nat × Nat)) (P : List (Int × Ent)) : Prop where
  nd : (P.map (·.1)).Nodup
  keys : ∀ q ∈ P, ∃ who : Nat, who < 6 ∧ q.1 = (who : Nat)
  get : ∀ who : Nat, aget P who = if (ownP pre who).isEmpty then none else some (ledEnt (ownP pre who))
theorem PInv.step {pre : List (Nat × Nat)} {P : List (Int × Ent)} (h : PInv pre P) (p : Nat × Nat) : PInv (pre ++ [p]) (pstep P p) := by
  refine ⟨aset_nodup _ _ _ h.nd, fun q hq => ?_, fun who => ?_⟩
  · rcases aset_mem hq with rfl | hq
    · exact ⟨cld p.1, cld_lt _, rfl⟩
    · exact h.keys q hq
  · unfold pstep
    rw [aget_aset]
    have ho : ownP (pre ++ [p]) who = if cld p.1 = who then ownP pre who ++ [p] else ownP pre who := by
      unfold ownP
      rw [List.filter_append]
      by_cases e : cld p.1 = who
      · rw [if_pos e]; congr 1; simp [e]
      · rw [if_neg e]; simp [e]
    rw [ho]
    by_cases e : cld p.1 = who
    · subst e
      rw [if_pos rfl, if_pos rfl, h.get]
      rw [if_neg (c := (ownP pre (cld p.1) ++ [p]).isEmpty = true) (by simp)]
      congr 1
      by_cases hn : (ownP pre (cld p.1)).isEmpty
      · rw [if_pos hn]
        have hn' : ownP pre (cld p.1) = [] := by simpa using hn
        rw [hn']
        exact led_snoc [] p
      · rw [if_neg hn]
        exact led_snoc _ p
    · rw [if_neg (fun q => e (by exact_mod_cast q.symm)), if_neg e]
      exact h.get who
theorem PInv.fold : ∀ (zs pre : List (Nat × Nat)) (P : List (Int × Ent)), PInv pre P → PInv (pre ++ zs) (zs.foldl pstep P)
  | [], pre, P, h => by simpa using h
  | p :: zs, pre, P, h => by
    have := PInv.fold zs (pre ++ [p]) _ (h.step p)
    simpa using this
theorem prof_inv (ms : List Nat) : PInv ms.zipIdx (profOf ms) := by
  have := PInv.fold ms.zipIdx [] [] ⟨List.nodup_nil, (fun _ h => nomatch h), fun who => by simp [ownP, aget]⟩
  exact this
theorem ownL_eq (ms : List Nat) (who : Nat) : ownL ms who = ownP ms.zipIdx who := rfl
structure LInv (ms pre : List Nat) (P : List (Int × Ent)) : Prop where
  nd : (P.map (·.1)).Nodup
  keys : ∀ q ∈ P, ∃ who : Nat, q.1 = (who : Nat)
  get : ∀ who : Nat, aget P who = if who ∈ pre ∧ (ownL ms who).isEmpty = false then some (ledEnt (ownL ms who)) else none
theorem LInv.step {ms pre : List Nat} {P : List (Int × Ent)} (h : LInv ms pre P) (k : Nat) : LInv ms (pre ++ [k]) (lstep ms P k) := by
  unfold lstep
  by_cases hk : (ownL ms k).isEmpty
  · rw [if_pos hk]
    refine ⟨h.nd, h.keys, fun who => ?_⟩
    rw [h.get]
    by_cases e : who = k
    · subst e; simp [hk]
    · simp [e]
  · rw [if_neg hk]
    refine ⟨aset_nodup _ _ _ h.nd, fun q hq => ?_, fun who => ?_⟩
    · rcases aset_mem hq with rfl | hq
      · exact ⟨k, rfl⟩
      · exact h.keys q hq
    · rw [aget_aset]
      by_cases e : who = k
      · subst e; simp at hk; simp [hk]
      · rw [if_neg (fun q => e (by exact_mod_cast q)), h.get]
        simp [e]
theorem LInv.fold {ms : List Nat} : ∀ (zs pre : List Nat) (P : List (Int × Ent)), LInv ms pre P → LInv ms (pre ++ zs) (zs.foldl (lstep ms) P)
  | [], pre, P, h => by simpa using h
  | p :: zs, pre, P, h => by
    have := LInv.fold zs (pre ++ [p]) _ (h.step p)
    simpa using this
theorem led_inv (ms : List Nat) : LInv ms (List.range 6) (ledgOf ms) := by
  have := LInv.fold (ms := ms) (List.range 6) [] [] ⟨List.nodup_nil, (fun _ h => nomatch h), fun who => by simp [aget]⟩
  exact this
theorem aget_of_mem {α : Type} : ∀ {l : List (Int × α)} {p : Int × α}, (l.map (·.1)).Nodup → p ∈ l → aget l p.1 = some p.2
  | (k, d) :: r, p, nd, hp => by
    obtain ⟨h1, h2⟩ := List.nodup_cons.mp nd
    unfold aget
    rcases List.mem_cons.mp hp with rfl | hp
    · rw [if_pos rfl]
    · rw [if_neg (fun e => h1 (by rw [e]; exact List.mem_map.mpr ⟨p, hp, rfl⟩))]
      exact aget_of_mem h2 hp
theorem nodup_sub_len : ∀ (a b : List Int), a.Nodup → (∀ x ∈ a, x ∈ b) → a.length ≤ b.length
  | [], _, _, _ => Nat.zero_le _
  | x :: a, b, nd, h => by
    obtain ⟨h1, h2⟩ := List.nodup_cons.mp nd
    have hx := h x (.head _)
    have := nodup_sub_len a (b.erase x) h2 fun y hy => (List.mem_erase_of_ne (fun e => h1 (by rw [← e]; exact hy))).mpr (h y (.tail _ hy))
    rw [List.length_erase_of_mem hx] at this
    have hb : 0 < b.length := List.length_pos_of_mem hx
    rw [List.length_cons]; omega
theorem prof_ent {ms : List Nat} {p : Int × Ent} (hp : p ∈ profOf ms) : ∃ who : Nat, who < 6 ∧ p.1 = (who : Nat) ∧ (ownL ms who).isEmpty = false ∧ p.2 = ledEnt (ownL ms who) := by
  have I := prof_inv ms
  obtain ⟨who, hw, e⟩ := I.keys p hp
  have h1 := aget_of_mem I.nd hp
  rw [e, I.get, ← ownL_eq] at h1
  by_cases hn : (ownL ms who).isEmpty
  · rw [if_pos hn] at h1; cases h1
  · rw [if_neg hn] at h1
    exact ⟨who, hw, e, by simpa using hn, (Option.some.inj h1).symm⟩
theorem prof_same {ms : List Nat} {p : Int × Ent} (hp : p ∈ profOf ms) : aget (ledgOf ms) p.1 = some p.2 := by
  obtain ⟨who, hw, e, hn, e2⟩ := prof_ent hp
  rw [e, (led_inv ms).get, if_pos ⟨List.mem_range.mpr hw, hn⟩, e2]
theorem prof_len (ms : List Nat) : (profOf ms).length = (ledgOf ms).length := by
  have I := prof_inv ms
  have J := led_inv ms
  have h1 := nodup_sub_len ((profOf ms).map (·.1)) ((ledgOf ms).map (·.1)) I.nd fun x hx => by
    obtain ⟨p, hp, rfl⟩ := List.mem_map.mp hx
    exact List.mem_map.mpr ⟨_, aget_mem (prof_same hp), rfl⟩
  have h2 := nodup_sub_len ((ledgOf ms).map (·.1)) ((profOf ms).map (·.1)) J.nd fun x hx => by
    obtain ⟨p, hp, rfl⟩ := List.mem_map.mp hx
    obtain ⟨who, e⟩ := J.keys p hp
    have h := aget_of_mem J.nd hp
    rw [e, J.get] at h
    split at h
    · rename_i hh
      have : aget (profOf ms) (who : Nat) = some (ledEnt (ownL ms who)) := by rw [I.get, ← ownL_eq, if_neg (by simp [hh.2])]
      rw [e]
      exact List.mem_map.mpr ⟨_, aget_mem this, rfl⟩
    · cases h
  rw [List.length_map, List.length_map] at h1 h2
  omega
theorem foldl_total : ∀ (l : List (Int × Int)) (s : Int), l.foldl (fun s q => s + q.2) s = s + total l
  | [], s => by simp [total]
  | p :: l, s => by
    rw [List.foldl_cons, foldl_total l]
    unfold total
    rw [List.map_cons, List.sum_cons]; omega
theorem prof_cnts {ms : List Nat} {p : Int × Ent} (hp : p ∈ profOf ms) : p.2.cal.foldl (fun s q => s + q.2) 0 = p.2.nc := by
  obtain ⟨who, _, _, _, e⟩ := prof_ent hp
  rw [e, foldl_total]
  simp [ledEnt, total]

/-- the calls from j to i -/
noncomputable def tot (i j : Nat) (ms : List Nat) : Int := (ms.map fun m => if cld m = i ∧ cal m = j then ((cnt m : Nat) : Int) else 0).sum
theorem cal_get (j : Nat) : ∀ (L : List (Nat × Nat)) (l : List (Int × Int)), (aget (L.foldl cstep l) j).getD 0 = (aget l j).getD 0 + (L.map fun p => if cal p.1 = j then ((cnt p.1 : Nat) : Int) else 0).sum
  | [], l => by simp
  | p :: L, l => by
    rw [List.foldl_cons, cal_get j L, List.map_cons, List.sum_cons]
    unfold cstep
    rw [aget_aset]
    by_cases e : cal p.1 = j
    · subst e; simp; omega
    · rw [if_neg (fun q => e (by exact_mod_cast q.symm)), if_neg e]; omega
theorem own_tot (i j : Nat) : ∀ (zs : List (Nat × Nat)), ((ownP zs i).map fun p => if cal p.1 = j then ((cnt p.1 : Nat) : Int) else 0).sum = tot i j (zs.map (·.1))
  | [] => rfl
  | p :: zs => by
    have ih := own_tot i j zs
    unfold tot ownP at ih ⊢
    rw [List.map_cons, List.map_cons, List.sum_cons, ← ih, List.filter_cons]
    by_cases e : cld p.1 = i
    · simp [e]
    · simp [e]
theorem calls_tot (ms : List Nat) (i j : Nat) : callsOf (profOf ms) i j = tot i j ms := by
  have h := own_tot i j ms.zipIdx
  have hz : ms.zipIdx.map (·.1) = ms := by simp
  rw [hz] at h
  unfold callsOf
  rw [(prof_inv ms).get]
  by_cases hn : (ownP ms.zipIdx i).isEmpty
  · rw [if_pos hn]
    have hn' : ownP ms.zipIdx i = [] := by simpa using hn
    rw [hn'] at h
    simpa using h
  · rw [if_neg hn, ← h]
    show (aget (calOf _) _).getD 0 = _
    unfold calOf
    rw [cal_get]
    simp [aget]
theorem net_tot (ms : List Nat) (i j : Nat) : ∀ (M : Mx6), Sh M → mget (ms.foldl addNet M) i j = mget M i j + tot i j ms - tot j i ms := by
  induction ms with
  | nil => intro M _; simp [tot]
  | cons m ms ih =>
    intro M sh
    rw [List.foldl_cons, ih _ (addNet_sh sh m), addNet_get sh]
    have hne := cld_ne m
    unfold tot
    rw [List.map_cons, List.map_cons, List.sum_cons, List.sum_cons]
    by_cases h1 : i = cal m ∧ j = cld m
    · rw [if_pos h1, if_neg (fun q => hne (q.1.trans h1.1)), if_pos ⟨h1.2.symm, h1.1.symm⟩]; omega
    · rw [if_neg h1, if_neg (c := cld m = j ∧ cal m = i) (fun q => h1 ⟨q.2.symm, q.1.symm⟩)]
      by_cases h2 : i = cld m ∧ j = cal m
      · rw [if_pos h2, if_pos ⟨h2.1.symm, h2.2.symm⟩]; omega
      · rw [if_neg h2, if_neg (fun q => h2 ⟨q.1.symm, q.2.symm⟩)]; omega
theorem net_eq (ms : List Nat) (i j : Nat) : netOf (profOf ms) i j = mget (netM ms) i j := by
  unfold netOf netM
  rw [calls_tot, calls_tot, net_tot ms i j M0 M0_sh, M0_get]; omega
theorem net_skew (ms : List Nat) (i j : Nat) : mget (netM ms) i j = - mget (netM ms) j i := by
  unfold netM
  rw [net_tot ms i j M0 M0_sh, net_tot ms j i M0 M0_sh, M0_get, M0_get]; omega
theorem calls_small {ms : List Nat} (hl : ms.length ≤ 11) (a b : Int) : 0 ≤ callsOf (profOf ms) a b ∧ callsOf (profOf ms) a b ≤ 44 := by
  unfold callsOf
  cases h : aget (profOf ms) a with
  | none => simp
  | some e =>
    obtain ⟨who, _, _, _, he⟩ := prof_ent (aget_mem h)
    have he : e = ledEnt (ownL ms who) := he
    show 0 ≤ (aget e.cal b).getD 0 ∧ (aget e.cal b).getD 0 ≤ 44
    cases h2 : aget e.cal b with
    | none => simp
    | some v =>
      rw [he] at h2
      have := cal_small (ownL ms who) [] 0 (fun _ h => nomatch h) (Int.le_refl _) _ (aget_mem h2)
      have hol : (ownL ms who).length ≤ 11 := by
        unfold ownL
        have := List.length_filter_le (fun p : Nat × Nat => cld p.1 == who) ms.zipIdx
        rw [List.length_zipIdx] at this; omega
      simp at this ⊢
      omega
theorem net_small {ms : List Nat} (hl : ms.length ≤ 11) (a b : Int) : (netOf (profOf ms) a b).natAbs ≤ 64 := by
  have h1 := calls_small hl a b
  have h2 := calls_small hl b a
  unfold netOf
  omega
end Mine

namespace Mine

/-- the sum over the pairings, in unknowns -/
noncomputable def pfP : Pol := pairs6.zipIdx.map fun p => (1 - 2 * ((turns6.getD p.2 0 % 2 : Nat) : Int), p.1.map fun q => 6 * q.1 + q.2)
theorem worth_ev {v : Nat → Int} {P : List (Int × Ent)} (h : ∀ i j : Nat, i < 6 → j < 6 → netOf P i j = v (6 * i + j)) : ∀ (pg : List (Nat × Nat)) (c : Int), (∀ q ∈ pg, q.1 < 6 ∧ q.2 < 6) → pg.foldl (fun (v : Int) p => v * netOf P p.1 p.2) c = c * evM v (pg.map fun q => 6 * q.1 + q.2)
  | [], c, _ => by simp [evM]
  | q :: pg, c, hq => by
    rw [List.foldl_cons, worth_ev h pg _ fun q' h' => hq q' (.tail _ h'), h _ _ (hq q (.head _)).1 (hq q (.head _)).2]
    show _ = c * (v (6 * q.1 + q.2) * evM v (pg.map fun q => 6 * q.1 + q.2))
    rw [Int.mul_assoc]
theorem worths_list {P : List (Int × Ent)} {ts : List Nat} : ∀ (zs : List (List (Nat × Nat))) (k : Nat) (l : List (Int × Int)), (∀ x ∈ l.map (·.1), ∃ i : Nat, i < k ∧ x = (i : Int)) →
    (zs.zipIdx k).foldl (wstep P ts) l = l ++ (zs.zipIdx k).map fun p => (((p.2 : Nat) : Int), worthOf P (ts.getD p.2 0) p.1)
  | [], k, l, _ => by simp
  | z :: zs, k, l, h => by
    rw [List.zipIdx_cons, List.foldl_cons]
    have : wstep P ts l (z, k) = l ++ [((k : Int), worthOf P (ts.getD k 0) z)] := by
      unfold wstep
      exact aset_new l _ _ fun hm => by
        obtain ⟨i, hi, e⟩ := h _ hm
        have : k = i := by exact_mod_cast e
        omega
    rw [this, worths_list zs (k + 1)]
    · simp
    · intro x hx
      rw [List.map_append] at hx
      rcases List.mem_append.mp hx with hx | hx
      · obtain ⟨i, hi, e⟩ := h x hx
        exact ⟨i, by omega, e⟩
      · simp at hx
        exact ⟨k, by omega, hx⟩
theorem total_ev {v : Nat → Int} {P : List (Int × Ent)} (h : ∀ i j : Nat, i < 6 → j < 6 → netOf P i j = v (6 * i + j)) (ts : List Nat) : ∀ zs : List (List (Nat × Nat) × Nat), (∀ z ∈ zs, ∀ q ∈ z.1, q.1 < 6 ∧ q.2 < 6) →
    total (zs.map fun p => (((p.2 : Nat) : Int), worthOf P (ts.getD p.2 0) p.1)) = evP v (zs.map fun p => (1 - 2 * ((ts.getD p.2 0 % 2 : Nat) : Int), p.1.map fun q => 6 * q.1 + q.2))
  | [], _ => rfl
  | z :: zs, hz => by
    have ih := total_ev h ts zs fun z' h' => hz z' (.tail _ h')
    unfold total at ih ⊢
    rw [List.map_cons, List.map_cons, List.sum_cons, ih]
    show worthOf P (ts.getD z.2 0) z.1 + _ = _ * evM v _ + _
    unfold worthOf
    rw [worth_ev h z.1 _ (hz z (.head _))]; rfl
theorem pairs_lt : pairs6.all (fun pg => pg.all fun q => decide (q.1 < 6) && decide (q.2 < 6)) = true := by decide +kernel
noncomputable def pfL : Pol := [(1, [1, 15, 29]), (-1, [1, 16, 23]), (1, [1, 17, 22]), (-1, [2, 9, 29]), (1, [2, 10, 23]), (-1, [2, 11, 22]), (1, [3, 8, 29]), (-1, [3, 10, 17]), (1, [3, 11, 16]), (-1, [4, 8, 23]), (1, [4, 9, 17]), (-1, [4, 11, 15]), (1, [5, 8, 22]), (-1, [5, 9, 16]), (1, [5, 10, 15])]
theorem pf_list : pfP = pfL := by decide +kernel
theorem pf_zeroL : zeroP (DtP ((List.range 6).map ent) (List.range 6) ++ mulT (-1) [] (mulP pfL pfL)) = true := by decide +kernel
theorem pf_zero : zeroP (DtP ((List.range 6).map ent) (List.range 6) ++ mulT (-1) [] (mulP pfP pfP)) = true := by rw [pf_list]; exact pf_zeroL
theorem pf_shape : (pfP.all fun t => decide (t.1.natAbs ≤ 1) && decide (t.2.length = 3)) = true ∧ pfP.length = 15 := by decide +kernel
theorem sum_ev (ms : List Nat) : sumOf ms = evP (fun n => mget (netM ms) (n / 6) (n % 6)) pfP := by
  unfold sumOf
  rw [foldl_total]
  unfold worthsOf
  rw [worths_list pairs6 0 [] (fun x hx => nomatch hx), List.nil_append, total_ev (v := fun n => mget (netM ms) (n / 6) (n % 6)) (fun i j hi hj => by
    rw [net_eq]
    show _ = mget (netM ms) ((6 * i + j) / 6) ((6 * i + j) % 6)
    rw [show (6 * i + j) / 6 = i by omega, show (6 * i + j) % 6 = j by omega]) turns6 _ fun z hz q hq => ?_]
  · rw [Int.zero_add]; rfl
  · have hz' : z.1 ∈ pairs6 := by
      have : z.1 ∈ (pairs6.zipIdx).map (·.1) := List.mem_map.mpr ⟨z, hz, rfl⟩
      simpa using this
    have := List.all_eq_true.mp (List.all_eq_true.mp pairs_lt z.1 hz') q hq
    simpa using this
theorem evM_small {v : Nat → Int} (h : ∀ n, (v n).natAbs ≤ 64) : ∀ m : List Nat, (evM v m).natAbs ≤ 64 ^ m.length
  | [] => by simp [evM]
  | i :: m => by
    show (v i * evM v m).natAbs ≤ _
    rw [Int.natAbs_mul, List.length_cons, Nat.pow_succ, Nat.mul_comm (64 ^ _)]
    exact Nat.mul_le_mul (h i) (evM_small h m)
theorem evP_small {v : Nat → Int} (h : ∀ n, (v n).natAbs ≤ 64) : ∀ p : Pol, (p.all fun t => decide (t.1.natAbs ≤ 1) && decide (t.2.length = 3)) = true → (evP v p).natAbs ≤ p.length * 64 ^ 3
  | [], _ => by simp [evP]
  | t :: p, hp => by
    rw [List.all_cons, Bool.and_eq_true, Bool.and_eq_true] at hp
    have h1 := of_decide_eq_true hp.1.1
    have h2 := of_decide_eq_true hp.1.2
    have h3 := evM_small h t.2
    have ih := evP_small h p hp.2
    show (t.1 * evM v t.2 + evP v p).natAbs ≤ _
    refine Nat.le_trans (Int.natAbs_add_le _ _) ?_
    rw [Int.natAbs_mul, List.length_cons]
    rw [h2] at h3
    have := Nat.mul_le_mul h1 h3
    omega
theorem plain_law {ms : List Nat} (hl : ms.length ≤ 11) : PlainLaw ms where
  len := prof_len ms
  same := fun p hp => prof_same hp
  cnts := fun p hp => prof_cnts hp
  nets := fun a b => Nat.lt_of_le_of_lt (net_small hl a b) (by decide)
  big := by
    rw [sum_ev]
    have := evP_small (v := fun n => mget (netM ms) (n / 6) (n % 6)) (fun n => by
      have := net_small hl ((n / 6 : Nat) : Int) ((n % 6 : Nat) : Int)
      rw [net_eq] at this
      exact this) pfP pf_shape.1
    rw [pf_shape.2] at this
    exact Nat.lt_of_le_of_lt this (by decide)
  det := by
    rw [sum_ev, detOf_eq, skew_det (R := mget (netM ms)) (fun i j _ _ => net_skew ms i j) pf_zero]
end Mine

namespace Mine
open PySem PySem.Calls PyProof.Rows

theorem sub_range_set : isSubtype (.type "range") (.type "set") = pure false := by rw [isSubtype_type]; kernel_rfl
theorem sub_range_frozenset : isSubtype (.type "range") (.type "frozenset") = pure false := by rw [isSubtype_type]; kernel_rfl
section
variable {prog : Program} {w : World} {A : Around} {E : Value → Shared → Prop} {s : Shared}
set_option maxHeartbeats 3200000 in
/-- set(range(a, b)) -/
theorem call_set_range {r : Addr} {a b : Int} {t u v : Tok} {n : Nat} {Q : Value → Shared → Prop}
    (hh : A.handled = none) (hr : IsRange s.heap r a b 1 t u v) (hsmall : Builtin.Range.small a b 1 = true) (hn : Builtin.Range.rangeSize a b 1 = n) (hb : n + 1 < scanBound)
    (h : ∀ (h' : Heap) (tk : Nat), h'.SetOf (intKind prog w) s.heap.objs.size (fun k' => (firstMet (fun i => a + (i : Int)) n).any (· == k')) (firstMet (fun i => a + (i : Int)) n).length →
      (∀ b o, b < s.heap.objs.size → s.heap.get? b = some o → h'.get? b = some o) → Q (.ref s.heap.objs.size) { s with heap := h', toks := tk }) :
    wpAny (model prog w) A (call (.type "set") [.ref r]) Q E s := by
  obtain ⟨c, tl, hmro⟩ := PySem.F.called_set.mro
  have hmade := PySem.F.called_set.made
  have hsub := PySem.F.called_set.sub
  refine wpAny_call (codeAny_of_tree ?_)
  show wpAny _ _ (callAny (.type "set") _) _ _ _
  refine wpAny_pure ⟨Code.quiet_builtin _ (by decide +kernel), codeAny_builtin PySem.F.entry_type_call ?_⟩
  rw [Around.under_plain (weight_type_call_type "set" [.ref r] []) rfl]
  have h1 := PySem.F.called_set.notType
  have h2 := PySem.F.called_set.canCreate
  have hct := PySem.F.typeCall_set_1 (.ref r)
  repeat (any_goals (first | assumption | wp_step))
  refine codeAny_mono (code_set_new_1 (.ref r) (E := E) (Q₁ := fun obj s₁ => ∃ led : Bool, obj = .ref s.heap.objs.size ∧ s₁ = { s with heap := s.heap.push { cls := .type "set", dict := none, data := .set #[] 0 (.fresh 0 0 led) } }) fun led => ⟨led, rfl, rfl⟩) fun r₀ s₁ hr₀ => ?_
  cases r₀ with
  | error e => exact hr₀
  | ok fl =>
    cases fl with
    | ret obj =>
      obtain ⟨led, rfl, rfl⟩ := hr₀
      have hS : (s.heap.push { cls := .type "set", dict := none, data := .set #[] 0 (.fresh 0 0 led) }).get? s.heap.objs.size = some { cls := .type "set", dict := none, data := .set #[] 0 (.fresh 0 0 led) } := Heap.get?_push_size _ rfl
      have hT : Shared.TypeIs { s with heap := s.heap.push { cls := .type "set", dict := none, data := .set #[] 0 (.fresh 0 0 led) } } (.ref s.heap.objs.size) "set" := ⟨_, hS, rfl⟩
      have hli := PySem.F.called_set.init.lookup
      have hbi := PySem.F.called_set.init.bind (.ref s.heap.objs.size)
      repeat (any_goals (first | assumption | wp_step))
      refine codeAny_mono (codeAny_call_builtin (R := wants (fun r s₂ => r = .none ∧ ∃ h' tk, s₂ = { s with heap := h', toks := tk } ∧
          h'.SetOf (intKind prog w) s.heap.objs.size (fun k' => (firstMet (fun i => a + (i : Int)) n).any (· == k')) (firstMet (fun i => a + (i : Int)) n).length ∧
          (∀ b o, b < s.heap.objs.size → s.heap.get? b = some o → h'.get? b = some o)) E) PySem.F.called_set.init.plain PySem.F.entry_set_init (check_set_init_1 hT ?_)) fun r₂ s₂ hr₂ => ?_
      · have hol' : (s.heap.push { cls := .type "set", dict := none, data := .set #[] 0 (.fresh 0 0 led) }).get? r = some { cls := .type "range", dict := none, data := .fields #[.int a t, .int b u, .int 1 v], slots := #[] } := Heap.get?_push_of_some _ hr
        have hsls := sub_range_set
        have hslf := sub_range_frozenset
        have hne : (Value.type "range" == Value.type "dict") = false := by decide
        have hl1 : IsRange (s.heap.push { cls := .type "set", dict := none, data := .set #[] 0 (.fresh 0 0 led) }) r a b 1 t u v := hol'
        unfold Builtin.«set.__init__» noKeywords Builtin.Frozenset.updateFrom
        generalize hPI : pyIter = PI
        wp_walk
        subst hPI
        refine wpAny_pyIter_range hl1 hsmall ?_
        refine wpAny_bind (wpAny_runValue ?_)
        have hh3 : A.in1.in1.in1.handled = none := by simp [hh]
        have hSf : s.heap.objs.size ∉ [(s.heap.push { cls := .type "set", dict := none, data := .set #[] 0 (.fresh 0 0 led) }).objs.size] := by
          rw [Heap.size_push]; simp only [List.mem_cons, List.not_mem_nil, or_false]
          exact Nat.ne_of_lt (Nat.lt_succ_self _)
        refine codeAny_set_update_loopS ((Walks.range hh3 _ a 1 n).toS) s.heap.objs.size
          hSf (fun i => a + (i : Int)) (fun i v hv => ?hval) hb (n - 0) 0 _ (by omega) (Nat.zero_le _)
          ?hst ?hS0 ?hR
        case hval =>
          obtain ⟨t, e⟩ := hv
          exact ⟨t, by rw [e, Int.mul_one]⟩
        case hst =>
          show IsRangeIter _ _ (a + ((0 : Nat) : Int) * 1) (((n : Nat) : Int) - ((0 : Nat) : Int)) 1
          have e1 : (a + ((0 : Nat) : Int) * 1) = a := by simp
          have e2 : (((n : Nat) : Int) - ((0 : Nat) : Int)) = Builtin.Range.rangeSize a b 1 := by rw [hn]; simp
          rw [e1, e2]
          exact Heap.get?_push_size _ rfl
        case hS0 =>
          have hget : ∀ o, ((s.heap.push { cls := .type "set", dict := none, data := .set #[] 0 (.fresh 0 0 led) }).push o).get? s.heap.objs.size
              = some { cls := .type "set", dict := none, data := .set #[] 0 (.fresh 0 0 led) } := fun o => Heap.get?_push_of_some _ hS
          exact SetOf_congr ((setObjOf_fresh (knd := intKind prog w) led).setOf (hget _) (by unfold scanBound; omega)) (fun _ => rfl) rfl
        case hR =>
          intro s' hm hS'
          obtain ⟨h', g', d', tk', os'⟩ := s'
          have eg : g' = s.gens := hm.gens
          have ed : d' = s.drawn := hm.drawn
          have eo : os' = s.os := hm.os
          subst eg; subst ed; subst eo
          show wpAny _ _ _ _ _ _
          refine wpAny_pure ?_
          show wpAny _ _ (ret Value.none) _ _ _
          refine wpAny_pure ⟨rfl, h', tk', rfl, hS', fun b o hb e => ?_⟩
          have hb1 : b ≠ s.heap.objs.size := Nat.ne_of_lt hb
          have hb2 : b ≠ (s.heap.push { cls := .type "set", dict := none, data := .set #[] 0 (.fresh 0 0 led) }).objs.size := by
            rw [Heap.size_push]; exact Nat.ne_of_lt (Nat.lt_succ_of_lt hb)
          exact hm.heap b o (by simp only [List.mem_cons, List.not_mem_nil, or_false, not_or]; exact ⟨hb1, hb2⟩) (Heap.get?_push_of_some _ (Heap.get?_push_of_some _ e))
      · cases r₂ with
        | error e => exact hr₂
        | ok fl₂ =>
          cases fl₂ with
          | ret r =>
            obtain ⟨rfl, h', tk, rfl, hS', hk'⟩ := hr₂
            repeat (any_goals (first | assumption | wp_step))
            exact h _ _ hS' hk'
          | _ => exact hr₂.elim
    | _ => exact hr₀.elim
end
end Mine

namespace Mine
open PySem PySem.Calls PyProof.Rows

/-- the env of a text's top -/
structure MEnv (env : Env) : Prop where
  kind : env.scope.kind = .module
  loc : env.locals = mainGlobals
  glob : env.globals = mainGlobals
  blt : env.builtins = builtinsNs
noncomputable def Kept (h h' : Heap) : Prop := ∀ b o, h.get? b = some o → h'.get? b = some o
/-- an expression of the top: it adds objects and gives what P says -/
structure EM (prog : Program) (w : World) (A : Around) (env : Env) (mg mb : Str → Option Value) (e : Expr) (P : Value → Heap → Prop) : Prop where
  run : ∀ (s : Shared) (Q E : Value → Shared → Prop), s.heap.Ns mainGlobals mg → s.heap.Ns builtinsNs mb →
    (∀ v h' tk, Kept s.heap h' → P v h' → Q v { s with heap := h', toks := tk }) → wpAny (model prog w) A (eval e env) Q E s
inductive IC : List Expr → List Int → Prop
  | nil : IC [] []
  | cons {x : Int} {k : Nat} {pos : Pos} {es : List Expr} {xs : List Int} : IC es xs → IC (.Constant (.int x) k pos :: es) (x :: xs)
noncomputable def LI (xs : List Int) (v : Value) (h : Heap) : Prop := ∃ a vs n, v = .ref a ∧ h.get? a = some { cls := .type "list", data := .seq (List.toArray vs) n } ∧ IntsAre vs xs
noncomputable def RI (a b : Int) (v : Value) (h : Heap) : Prop := ∃ r t u z, v = .ref r ∧ IsRange h r a b 1 t u z
noncomputable def SI (xs : List Int) (v : Value) (h : Heap) : Prop := ∃ a o m, v = .ref a ∧ h.get? a = some o ∧ o.IntSetOf (fun k => decide (k ∈ xs)) m ∧ m < 4096

section
variable {prog : Program} {w : World} {A : Around} {env : Env} {mg mb : Str → Option Value}
theorem IntsAre.app : ∀ {vs us : List Value} {xs ys : List Int}, IntsAre vs xs → IntsAre us ys → IntsAre (vs ++ us) (xs ++ ys)
  | _, _, _, _, .nil, h => h
  | _, _, _, _, .cons n t hr, h => .cons n t (IntsAre.app hr h)
theorem nameB (M : MEnv env) {x : Str} {v : Value} {pos : Pos} {s : Shared} {Q E : Value → Shared → Prop} (hg : s.heap.Ns mainGlobals mg) (hb : s.heap.Ns builtinsNs mb) (hm : mg x = none) (hv : mb x = some v) (h : Q v s) (hd : (x == ("__debug__" : Str)) = false := by decide) :
    wpAny (model prog w) A (eval (.Name x pos) env) Q E s :=
  Calls.Name_module M.kind (M.loc.trans M.glob.symm) (loadGlobal_builtin (M.glob ▸ hg) hm (M.blt ▸ hb) hv h) hd
theorem items_ints {es : List Expr} {xs : List Int} (h : IC es xs) : ∀ (s : Shared) (pos : Pos) (Q : List Value → Shared → Prop) (E : Value → Shared → Prop), (∀ vs tk, IntsAre vs xs → Q vs { s with toks := tk }) → wpAny (model prog w) A (spliced (backTo pos (starEach es env))) Q E s := by
  induction h with
  | nil => exact fun s pos Q E hQ => wpAny_items_nil (hQ [] s.toks .nil)
  | cons h ih =>
    intro s pos Q E hQ
    exact wpAny_items_cons (wpAny_Constant_int (ih _ pos _ E fun vs tk r => hQ _ tk (.cons _ _ r))) (star_cons rfl)
theorem EM.list {es : List Expr} {xs : List Int} {pos : Pos} (h : IC es xs) (hz : xs.length ≤ 1000000 := by exact Nat.le_of_ble_eq_true rfl) : EM prog w A env mg mb (.List es pos) (LI xs) := .mk fun s Q E hg hb hQ =>
  wpAny_List (items_ints h s pos _ E fun vs tk r => ⟨by rw [IntsAre.length r]; exact Nat.le_trans hz (by decide), hQ _ _ tk (fun b o e => Heap.get?_push_of_some _ e) ⟨_, vs, 0, rfl, Heap.get?_push_size _ rfl, r⟩⟩)
theorem EM.range (M : MEnv env) {e₁ e₂ : Expr} {p pos : Pos} {a b : Int} (hm : mg "range" = none) (hv : mb "range" = some (.type "range")) (h : IC [e₁, e₂] [a, b]) : EM prog w A env mg mb (.Call (.Name "range" p) [e₁, e₂] [] pos) (RI a b) := .mk fun s Q E hg hb hQ => by
  refine wpAny_Call_NameR (nameB M hg hb hm hv ?_)
  have hs := items_ints (prog := prog) (w := w) (A := A) (env := env) h s pos (fun vs s₁ => wpAny (model prog w) A (call (.type "range") vs) Q E s₁) E fun vs tk r => by
    cases r with
    | cons _ t₁ r => cases r with
      | cons _ t₂ r =>
        cases r
        exact call_range_2 (hQ _ _ _ (fun b o e => Heap.get?_push_of_some _ e) ⟨_, _, _, _, rfl, Heap.get?_push_size _ rfl⟩)
  cases h with
  | cons h => exact PyProof.Rows.callWith_type1 hs (star_cons rfl) (by cases h with | cons h => cases h; exact any_star rfl)
theorem EM.add {l r : Expr} {pos : Pos} {xs ys : List Int} (hl : EM prog w A env mg mb l (LI xs)) (hr : EM prog w A env mg mb r (LI ys)) (hz : xs.length + ys.length ≤ 1000000 := by exact Nat.le_of_ble_eq_true rfl) : EM prog w A env mg mb (.BinOp l .Add r pos) (LI (xs ++ ys)) := .mk fun s Q E hg hb hQ =>
  wpAny_BinOp (hl.run s _ E hg hb fun u h₁ t₁ k₁ r₁ => hr.run _ _ E (hg.keeps k₁) (hb.keeps k₁) fun v h₂ t₂ k₂ r₂ => by
    obtain ⟨a, vs, m, rfl, hg1, i1⟩ := r₁
    obtain ⟨b, us, m', rfl, hg2, i2⟩ := r₂
    refine P.add_list (k₂ _ _ hg1) hg2 (hQ _ _ _ (fun b o e => Heap.get?_push_of_some _ (k₂ _ _ (k₁ _ _ e))) ⟨_, vs ++ us, 0, rfl, ?_, IntsAre.app i1 i2⟩) (by simp only [List.size_toArray, IntsAre.length i1, IntsAre.length i2]; exact Nat.le_trans hz (by decide))
    rw [show (vs ++ us).toArray = vs.toArray ++ us.toArray by simp]
    exact Heap.get?_push_size _ rfl)
theorem call1 (M : MEnv env) {T : Str} {S : String} {e : Expr} {p pos : Pos} {s : Shared} {Q E : Value → Shared → Prop} {P : Value → Heap → Prop} (hg : s.heap.Ns mainGlobals mg) (hb : s.heap.Ns builtinsNs mb) (hm : mg T = none) (hv : mb T = some (.type S)) (h : EM prog w A env mg mb e P)
    (hQ : ∀ v h' tk, Kept s.heap h' → P v h' → wpAny (model prog w) A (call (.type S) [v]) Q E { s with heap := h', toks := tk }) (hs : unstarred e = true) (hd : (T == ("__debug__" : Str)) = false := by decide) : wpAny (model prog w) A (eval (.Call (.Name T p) [e] [] pos) env) Q E s := by
  refine wpAny_Call_NameR (nameB M hg hb hm hv ?_ hd)
  exact PyProof.Rows.callWith_type1 (wpAny_items_cons (h.run s _ E hg hb fun v h' tk k r => wpAny_items_nil (hQ v h' tk k r)) (star_cons hs)) (star_cons hs) (any_star rfl)
theorem ints_of {a : Int} : ∀ {n : Nat} {vs : List Value}, vs.length = n → (∀ (i : Nat) v, vs[i]? = some v → ∃ t, v = Value.int (a + (i : Int) * 1) t) → IntsAre vs ((List.range n).map fun i : Nat => a + (i : Int))
  | 0, vs, hl, _ => by
    have := List.eq_nil_of_length_eq_zero hl
    subst this; exact .nil
  | n + 1, v :: vs, hl, h => by
    obtain ⟨t, e⟩ := h 0 v rfl
    have ih := ints_of (a := a + 1) (n := n) (vs := vs) (by simpa using hl) fun i v hv => by
      obtain ⟨t, e⟩ := h (i + 1) v hv
      exact ⟨t, by rw [e]; congr 1; push_cast; omega⟩
    rw [List.range_succ_eq_map, List.map_cons, List.map_map, e]
    have e2 : (a + ((0 : Nat) : Int) * 1) = a + ((0 : Nat) : Int) := by omega
    rw [e2]
    refine .cons _ t ?_
    have : ((fun i : Nat => a + (i : Int)) ∘ Nat.succ) = fun i : Nat => a + 1 + (i : Int) := by
      funext i; simp only [Function.comp]; push_cast; omega
    rw [this]
    exact ih
theorem EM.listRange (M : MEnv env) {e₁ e₂ : Expr} {p p' pos pos' : Pos} {a b : Int} {n : Nat} (hh : A.handled = none) (hm : mg "range" = none) (hv : mb "range" = some (.type "range")) (hm' : mg "list" = none) (hv' : mb "list" = some (.type "list")) (h : IC [e₁, e₂] [a, b])
    (hsm : Builtin.Range.small a b 1 = true) (hn : Builtin.Range.rangeSize a b 1 = n) (hl : n ≤ 2 ^ 24) : EM prog w A env mg mb (.Call (.Name "list" p') [.Call (.Name "range" p) [e₁, e₂] [] pos] [] pos') (LI ((List.range n).map fun i : Nat => a + (i : Int))) := .mk fun s Q E hg hb hQ =>
  call1 M hg hb hm' hv' (EM.range M hm hv h) (fun v h' tk k r => by
    obtain ⟨r, t, u, z, rfl, hr⟩ := r
    refine call_list_range hh hr hsm hn hl fun h'' tk' acc c k' hget hi => hQ _ _ _ (fun b o e => k' _ _ (k _ _ e)) ⟨_, acc.toList, c, rfl, by rw [Array.toArray_toList]; exact hget, ints_of (by simpa using hi.1) fun i v hv => ?_⟩
    rw [Array.getElem?_toList] at hv
    exact hi.2 i v hv) rfl
theorem any_mem (l : List Int) : (fun k => l.any (· == k)) = fun k => decide (k ∈ l) := by
  funext k
  rw [Bool.eq_iff_iff, List.any_eq_true, decide_eq_true_iff]
  exact ⟨fun ⟨x, hx, e⟩ => (beq_iff_eq.mp e) ▸ hx, fun h => ⟨k, h, beq_self_eq_true k⟩⟩
theorem EM.setList (M : MEnv env) {e : Expr} {p pos : Pos} {xs : List Int} (hh : A.handled = none) (hm : mg "set" = none) (hv : mb "set" = some (.type "set")) (h : EM prog w A env mg mb e (LI xs)) (hs : unstarred e = true) (hd : firstMet (fun i => xs.getD i 0) xs.length = xs) (hl : xs.length + 1 < 4096) : EM prog w A env mg mb (.Call (.Name "set" p) [e] [] pos) (SI xs) := .mk fun s Q E hg hb hQ =>
  call1 M hg hb hm hv h (fun v h' tk k r => by
    obtain ⟨a, vs, n, rfl, hget, hi⟩ := r
    have hlen := IntsAre.length hi
    refine call_set_list (items := vs.toArray) (ns := xs) hh ⟨_, hget, rfl, n, rfl⟩ (by simpa using hi) (by simp only [List.size_toArray, hlen]; exact hl) fun h'' tk' hS k' => ?_
    simp only [List.size_toArray, hlen, hd, any_mem] at hS
    obtain ⟨o, ho, hso⟩ := hS.objOf
    exact hQ _ _ _ (fun b o e => k' _ _ (Heap.lt_size (k _ _ e)) (k _ _ e)) ⟨_, o, _, rfl, ho, hso.intSetOf, by omega⟩) hs
theorem EM.setRange (M : MEnv env) {e₁ e₂ : Expr} {p p' pos pos' : Pos} {a b : Int} {n : Nat} {xs : List Int} (hh : A.handled = none) (hm : mg "range" = none) (hv : mb "range" = some (.type "range")) (hm' : mg "set" = none) (hv' : mb "set" = some (.type "set")) (h : IC [e₁, e₂] [a, b])
    (hsm : Builtin.Range.small a b 1 = true) (hn : Builtin.Range.rangeSize a b 1 = n) (hl : n + 1 < 4096) (hd : firstMet (fun i => a + (i : Int)) n = xs) (hx : xs.length = n) : EM prog w A env mg mb (.Call (.Name "set" p') [.Call (.Name "range" p) [e₁, e₂] [] pos] [] pos') (SI xs) := .mk fun s Q E hg hb hQ =>
  call1 M hg hb hm' hv' (EM.range M hm hv h) (fun v h' tk k r => by
    obtain ⟨r, t, u, z, rfl, hr⟩ := r
    refine call_set_range hh hr hsm hn hl fun h'' tk' hS k' => ?_
    simp only [hd, any_mem, hx] at hS
    obtain ⟨o, ho, hso⟩ := hS.objOf
    exact hQ _ _ _ (fun b o e => k' _ _ (Heap.lt_size (k _ _ e)) (k _ _ e)) ⟨_, o, _, rfl, ho, hso.intSetOf, by omega⟩) rfl
end
end Mine

namespace Mine
open PySem PySem.Calls PyProof.Rows

noncomputable def lineOf : Stmt → Nat
  | .FunctionDef _ _ _ _ _ _ _ _ _ pos => pos.line
  | .Assign _ _ pos => pos.line
  | _ => 0
noncomputable def nameOf : Stmt → Str
  | .FunctionDef name _ _ _ _ _ _ _ _ _ => name
  | .Assign [.Name x _] _ _ => x
  | _ => ""
noncomputable def nameAt (k : Nat) : Str := nameOf (topS k)
noncomputable def lineAt (k : Nat) : Nat := if k < 37 then lineOf (topS k) else 1000000
noncomputable def rel (j : Nat) : Bool := !([0, 6, 10, 22] : List Nat).contains j
noncomputable def defIdx : List Nat := [2, 3, 4, 5, 7, 8, 9, 12, 13, 15, 17, 19, 21, 23, 24, 25, 26, 27, 28, 29, 30, 31, 32, 33, 34, 35, 36]
noncomputable def setT : List (Nat × List Nat) := [(11, b1L), (14, c6L), (16, c7L), (18, c8L), (20, c9L)]
/-- what the statement of place j has left -/
structure Item (j : Nat) (mg : Str → Option Value) (h : Heap) (Pl : Addr) : Prop where
  fn : j ∈ defIdx → ∃ a c' pm, mg (nameAt j) = some (.ref a) ∧ h.get? a = some { cls := .type "function", data := .func (defOf j pm (.ref c')) } ∧ h.CodeRec (.ref c') (fnName (topS j)) ∧ Pl < a ∧ Pl < c'
  set : ∀ p ∈ setT, p.1 = j → ∃ a o m, mg (nameAt j) = some (.ref a) ∧ h.get? a = some o ∧ o.IntSetOf (fun k => decide (k ∈ p.2.map Int.ofNat)) m ∧ m < 4096 ∧ a ≠ Pl ∧ a ≠ mainGlobals
  tick : j = 1 → ∃ t, mg (nameAt j) = some (.str "'" t)
structure TI (h₀ : Heap) (c Pl : Addr) (mg0 mb : Str → Option Value) (k : Nat) (mg : Str → Option Value) (h : Heap) : Prop where
  main : ∃ l : List (Pos × Addr), h.Main mg c Pl (triples l).toArray ∧ ∀ q ∈ l, q.1.line < lineAt k
  b0 : h₀.Ns builtinsNs mb
  keep : ∀ b o, b ≠ mainGlobals → h₀.get? b = some o → h.get? b = some o
  old : ∀ x, (∀ j, j < k → nameAt j ≠ x) → mg x = mg0 x
  pl : h₀.objs.size ≤ Pl
  item : ∀ j, j < k → rel j = true → Item j mg h Pl

noncomputable def upd (mg : Str → Option Value) (n : Str) (v : Value) : Str → Option Value := fun x => if x = n then some v else mg x
section
variable {prog : Program} {w : World} {A : Around} {c Pl F : Addr} {mg0 mb mg : Str → Option Value} {h₀ : Heap} {k : Nat}

theorem Item.step {j : Nat} {n : Str} {v : Value} {h h' : Heap} (x : Item j mg h Pl) (hlt : mainGlobals < Pl) (kp : ∀ b o, b ≠ Pl → b ≠ mainGlobals → h.get? b = some o → h'.get? b = some o) (hn : nameAt j ≠ n) : Item j (upd mg n v) h' Pl := by
  have e : upd mg n v (nameAt j) = mg (nameAt j) := if_neg hn
  refine ⟨fun hj => ?_, fun p hp hj => ?_, fun hj => ?_⟩
  · obtain ⟨a, c', pm, h1, h2, h3, h4, h5⟩ := x.fn hj
    refine ⟨a, c', pm, e.trans h1, kp _ _ (Nat.ne_of_gt h4) (Nat.ne_of_gt (Nat.lt_trans hlt h4)) h2, ?_, h4, h5⟩
    exact h3.at fun o => kp _ o (Nat.ne_of_gt h5) (Nat.ne_of_gt (Nat.lt_trans hlt h5))
  · obtain ⟨a, o, m, h1, h2, h3, h4, h5, h6⟩ := x.set p hp hj
    exact ⟨a, o, m, e.trans h1, kp _ _ h5 h6 h2, h3, h4, h5, h6⟩
  · obtain ⟨t, h1⟩ := x.tick hj
    exact ⟨t, e.trans h1⟩
theorem TI.low {h : Heap} (x : TI h₀ c Pl mg0 mb k mg h) : mainGlobals < Pl := let ⟨_, hm, _⟩ := x.main; hm.low.2
theorem TI.push {h h' : Heap} {v : Value} {l : List (Pos × Addr)} (x : TI h₀ c Pl mg0 mb k mg h) (kp : ∀ b o, b ≠ Pl → b ≠ mainGlobals → h.get? b = some o → h'.get? b = some o)
    (hm : h'.Main (upd mg (nameAt k) v) c Pl (triples l).toArray) (hl : ∀ q ∈ l, q.1.line < lineAt (k + 1)) (hn : ∀ j, j < k → rel j = true → nameAt j ≠ nameAt k) (hi : rel k = true → Item k (upd mg (nameAt k) v) h' Pl) : TI h₀ c Pl mg0 mb (k + 1) (upd mg (nameAt k) v) h' := by
  refine ⟨⟨l, hm, hl⟩, x.b0, fun b o hb e => kp b o (Nat.ne_of_lt (Nat.lt_of_lt_of_le (Heap.lt_size e) x.pl)) hb (x.keep b o hb e), fun y hy => ?_, x.pl, fun j hj hr => ?_⟩
  · show (if y = nameAt k then some v else mg y) = mg0 y
    rw [if_neg (fun e => hy k (Nat.lt_succ_self _) e.symm)]
    exact x.old y fun j hj => hy j (Nat.lt_succ_of_lt hj)
  · by_cases e : j = k
    · subst e; exact hi hr
    · have hj' : j < k := by omega
      exact (x.item j hj' hr).step x.low kp (hn j hj' hr)
theorem Main.kept {h h' : Heap} {ps : Array Value} (x : h.Main mg c Pl ps) (kp : Kept h h') : h'.Main mg c Pl ps :=
  ⟨x.g.keeps kp, x.code.keeps kp, x.low, let ⟨bm, o, h1, h2, h3, h4, h5, h6⟩ := x.bmod; ⟨bm, o, h1, h2, h3, h4, kp _ _ h5, h6⟩⟩
theorem Main.store {h h' : Heap} {ps : Array Value} {n : Str} {v : Value} (x : h.Main mg c Pl ps) (hn : n ≠ "__builtins__") (g : h'.Ns mainGlobals (upd mg n v)) (hs : Heap.SameBut mainGlobals h h') : h'.Main (upd mg n v) c Pl ps :=
  ⟨g, x.code.sameBut hs (Nat.ne_of_gt x.low.1) (Nat.ne_of_gt x.low.2), x.low, let ⟨bm, o, h1, h2, h3, h4, h5, h6⟩ := x.bmod; ⟨bm, o, (if_neg (Ne.symm hn)).trans h1, h2, h3, h4, (hs.2 _ h3).trans h5, h6⟩⟩

noncomputable def P0 : Program := PySem.Challenge.pw_zd0010_01
theorem menv : MEnv (mainEnv P0 c F) := ⟨rfl, rfl, rfl, rfl⟩
/-- NAME = expression -/
theorem TI.assign {s : Shared} {x : Str} {p pos : Pos} {e : Expr} {P : Value → Heap → Prop} {Q : Flow → Shared → Prop} {E : Value → Shared → Prop} (t : TI h₀ c Pl mg0 mb k mg s.heap) (hS : topS k = .Assign [.Name x p] e pos) (he : EM prog w A (mainEnv P0 c F) mg mb e P)
    (hsw : swapsWith e (some (.Name x p)) pos.line (mainEnv P0 c F) = pure false) (hloc : P0.main.scope.names.lookup x = some .local) (hnb : x ≠ "__builtins__") (hl : lineAt k ≤ lineAt (k + 1)) (hn : ∀ j, j < k → rel j = true → nameAt j ≠ nameAt k)
    (hi : ∀ v h' h'' l, P v h' → h'.Main mg c Pl (triples l).toArray → Heap.SameBut mainGlobals h' h'' → rel k = true → Item k (upd mg (nameAt k) v) h'' Pl)
    (hQ : ∀ mg' h' tk, TI h₀ c Pl mg0 mb (k + 1) mg' h' → Q .next { s with heap := h', toks := tk }) : wpAny (model prog w) A (exec (topS k) (mainEnv P0 c F)) Q E s := by
  obtain ⟨l, hm, hq⟩ := t.main
  have hx : nameAt k = x := by unfold nameAt; rw [hS]; rfl
  have hB : s.heap.Ns builtinsNs mb := t.b0.at fun o => t.keep _ o (by decide)
  rw [hS, exec_Assign_Name _ _ _ _ _ hsw]
  refine wpAny_bind (wpAny_standAt (wpAny_bind (he.run s _ E hm.g hB fun v h' tk kp hp => wpAny_bind (wpAny_standAt (wpAny_bind (wpAny_bindName (wpAny_storeName_local (env := mainEnv P0 c F) hloc (hm.g.keeps kp) (fun h'' hg' hs' => wpAny_pure ?_) rfl)))))))
  have hm' := Main.store (Main.kept hm kp) hnb hg' hs'
  rw [← hx] at hm'
  have hpl : Pl < s.heap.objs.size := hm.code.lt.2
  exact hQ _ h'' _ (t.push (fun b o hb hb' e' => (hs'.2 _ hb').trans (kp _ _ e')) hm' (fun q h => Nat.lt_of_lt_of_le (hq q h) hl) hn (hi v h' h'' l hp (Main.kept hm kp) hs'))
noncomputable def dOf (k : Nat) (pos : Pos) : DefRec := ⟨fnName (topS k), fnArgs (topS k), fnBody (topS k), fnScope (topS k), pos⟩
/-- a def -/
theorem TI.defn {s : Shared} {pos : Pos} {Q : Flow → Shared → Prop} {E : Value → Shared → Prop} (t : TI h₀ c Pl mg0 mb k mg s.heap) (hS : topS k = (dOf k pos).stmt) (hex : PlainDefTree (fnName (topS k)) (fnArgs (topS k)) (fnBody (topS k)) (fnScope (topS k)) pos)
    (hfree : ∀ x ∈ (fnScope (topS k)).names, x.2 ≠ .free) (hdoc : docOf (fnBody (topS k)) = none) (hloc : P0.main.scope.names.lookup (fnName (topS k)) = some .local)
    (hqual : qualnameIn { scope := P0.main.scope, locals := mainGlobals, globals := mainGlobals, cells := [] } (fnName (topS k)) (fnName (topS k)) = fnName (topS k)) (hnb : fnName (topS k) ≠ "__builtins__") (hnm : nameAt k = fnName (topS k)) (hpos : pos.line = lineAt k) (hl : lineAt k < lineAt (k + 1)) (hn : ∀ j, j < k → rel j = true → nameAt j ≠ nameAt k) (hset : ∀ p ∈ setT, p.1 ≠ k) (hk1 : k ≠ 1)
    (hQ : ∀ mg' h' tk, TI h₀ c Pl mg0 mb (k + 1) mg' h' → Q .next { s with heap := h', toks := tk }) : wpAny (model prog w) A (exec (topS k) (mainEnv P0 c F)) Q E s := by
  obtain ⟨l, hm, hq⟩ := t.main
  rw [hS]
  have hPl : Pl < s.heap.objs.size := hm.code.lt.2
  refine wpAny_plainDef (prog := P0) hex hfree hdoc hloc hqual hm (fun a c' h' tk ha hm' hf hc keep => ?_) hnb rfl (by
    rw [List.toList_toArray]
    exact codeAmong_triples _ _ fun q hq' e => by
      have := hq q hq'
      have e1 : q.1.line = pos.line := e.1
      omega)
  have hm₁ : h'.Main (upd mg (nameAt k) (.ref a)) c Pl (triples (l ++ [(pos, c')])).toArray := by
    rw [triples_append, hnm]
    have : (triples l ++ [rawInt pos.line, rawInt pos.col, Value.ref c']).toArray = (triples l).toArray ++ #[rawInt pos.line, rawInt pos.col, .ref c'] := by simp
    rw [this]
    exact hm'
  refine hQ _ h' tk (t.push keep hm₁ (fun q h => ?_) hn fun _ => ⟨fun _ => ⟨a, c', _, if_pos rfl, hf, hc.2, Nat.lt_of_lt_of_le hPl ha, Nat.lt_of_lt_of_le hPl hc.1⟩, fun p hp e => absurd e (hset p hp), fun e => absurd e hk1⟩)
  rcases List.mem_append.mp h with h | h
  · exact Nat.lt_trans (hq q h) hl
  · simp at h; rw [h]; show pos.line < _; omega
theorem EM.str {y : Str} {kd : Nat} {pos : Pos} : EM prog w A (mainEnv P0 c F) mg mb (.Constant (.str y) kd pos) (fun v _ => ∃ t, v = .str y t) := .mk fun s Q E hg hb hQ =>
  wpAny_Constant_str (hQ _ _ _ (fun b o e => e) ⟨_, rfl⟩)
theorem set_item (w : World) {xs : List Int} {v : Value} {h' h'' : Heap} {l : List (Pos × Addr)} {L : List Nat} (hk : (k, L) ∈ setT) (hu : ∀ p ∈ setT, p.1 = k → p.2 = L) (hx : xs = L.map Int.ofNat) (hd : k ∉ defIdx) (h1 : k ≠ 1) (hp : SI xs v h') (hm : h'.Main mg c Pl (triples l).toArray) (hs : Heap.SameBut mainGlobals h' h'') : Item k (upd mg (nameAt k) v) h'' Pl := by
  refine ⟨fun e => absurd e hd, fun p hp' e => ?_, fun e => absurd e h1⟩
  obtain ⟨a, o, m, rfl, ho, hso, hm4⟩ := hp
  obtain ⟨_, es, ep, tb, hdat, _⟩ := hso P0 w
  have ha : a ≠ mainGlobals := by
    rintro rfl
    obtain ⟨o', es', ep', ho', hd', _⟩ := hm.g
    rw [ho] at ho'; cases ho'
    rw [hdat] at hd'; cases hd'
  have hap : a ≠ Pl := by
    rintro rfl
    obtain ⟨_, _, _, _, _, _, _, _, _, op, _, _, _, _, _, _, _, hop, hpd, _⟩ := hm.code
    rw [ho] at hop; cases hop
    rw [hdat] at hpd; cases hpd
  refine ⟨a, o, m, if_pos rfl, (hs.2 _ ha).trans ho, ?_, hm4, hap, ha⟩
  rw [hu p hp' e, ← hx]; exact hso
end
end Mine

namespace Mine
open PySem PySem.Calls PyProof.Rows

theorem names_ne : ∀ k, k < 37 → ∀ j, j < k → rel j = true → nameAt j ≠ nameAt k := by decide +kernel
theorem lines_lt : ∀ k, k < 37 → lineAt k < lineAt (k + 1) := by decide +kernel
theorem names_no : ∀ x ∈ (["set", "range", "list"] : List Str), ∀ j, j < 37 → nameAt j ≠ x := by decide +kernel
theorem names_bn : ∀ j, j < 37 → nameAt j ≠ "__builtins__" := by decide +kernel
structure Bs (mg0 mb : Str → Option Value) : Prop where
  gset : mg0 "set" = none
  grange : mg0 "range" = none
  glist : mg0 "list" = none
  set : mb "set" = some (.type "set")
  range : mb "range" = some (.type "range")
  list : mb "list" = some (.type "list")
section
variable {prog : Program} {w : World} {A : Around} {c Pl F : Addr} {mg0 mb mg : Str → Option Value} {h₀ : Heap}
theorem TI.miss {k : Nat} {h : Heap} (t : TI h₀ c Pl mg0 mb k mg h) (hk : k < 37) {x : Str} (hx : x ∈ (["set", "range", "list"] : List Str)) : mg x = mg0 x := t.old x fun j hj => names_no x hx j (by omega)
theorem uniq {k : Nat} {L : List Nat} (h : (setT.all fun p => p.1 != k || p.2 == L) = true) : ∀ p ∈ setT, p.1 = k → p.2 = L := fun p hp e => by
  have := List.all_eq_true.mp h p hp
  subst e
  simpa using this
theorem nset {k : Nat} (h : (setT.all fun p => p.1 != k) = true) : ∀ p ∈ setT, p.1 ≠ k := fun p hp e => by
  have := List.all_eq_true.mp h p hp
  subst e
  simp at this
variable {s : Shared} {Q : Flow → Shared → Prop} {E : Value → Shared → Prop}

theorem step_0 (hh : A.handled = none) (B : Bs mg0 mb) (t : TI h₀ c Pl mg0 mb 0 mg s.heap) (hQ : ∀ mg' h' tk, TI h₀ c Pl mg0 mb 1 mg' h' → Q .next { s with heap := h', toks := tk }) : wpAny (model prog w) A (exec (topS 0) (mainEnv P0 c F)) Q E s := by
  exact t.assign (P := fun v _ => ∃ t, v = .str _ t) rfl EM.str rfl rfl (by decide) (Nat.le_of_lt (lines_lt 0 (by decide))) (names_ne 0 (by decide)) (fun v h' h'' l hp hm hs hr => absurd hr (by decide)) hQ
theorem step_1 (hh : A.handled = none) (B : Bs mg0 mb) (t : TI h₀ c Pl mg0 mb 1 mg s.heap) (hQ : ∀ mg' h' tk, TI h₀ c Pl mg0 mb 2 mg' h' → Q .next { s with heap := h', toks := tk }) : wpAny (model prog w) A (exec (topS 1) (mainEnv P0 c F)) Q E s := by
  exact t.assign (P := fun v _ => ∃ t, v = .str "'" t) rfl EM.str rfl rfl (by decide) (Nat.le_of_lt (lines_lt 1 (by decide))) (names_ne 1 (by decide)) (fun v h' h'' l ⟨tk, e⟩ hm hs _ => ⟨fun h => absurd h (by decide), fun p hp e => absurd e (nset (by decide +kernel) p hp), fun _ => ⟨tk, by rw [← e]; exact if_pos rfl⟩⟩) hQ
theorem step_2 (hh : A.handled = none) (B : Bs mg0 mb) (t : TI h₀ c Pl mg0 mb 2 mg s.heap) (hQ : ∀ mg' h' tk, TI h₀ c Pl mg0 mb 3 mg' h' → Q .next { s with heap := h', toks := tk }) : wpAny (model prog w) A (exec (topS 2) (mainEnv P0 c F)) Q E s := by
  exact t.defn rfl (fun _ => rfl) (by decide) rfl rfl rfl (by decide) rfl rfl (lines_lt 2 (by decide)) (names_ne 2 (by decide)) (nset (by decide +kernel)) (by decide) hQ
theorem step_3 (hh : A.handled = none) (B : Bs mg0 mb) (t : TI h₀ c Pl mg0 mb 3 mg s.heap) (hQ : ∀ mg' h' tk, TI h₀ c Pl mg0 mb 4 mg' h' → Q .next { s with heap := h', toks := tk }) : wpAny (model prog w) A (exec (topS 3) (mainEnv P0 c F)) Q E s := by
  exact t.defn rfl (fun _ => rfl) (by decide) rfl rfl rfl (by decide) rfl rfl (lines_lt 3 (by decide)) (names_ne 3 (by decide)) (nset (by decide +kernel)) (by decide) hQ
theorem step_4 (hh : A.handled = none) (B : Bs mg0 mb) (t : TI h₀ c Pl mg0 mb 4 mg s.heap) (hQ : ∀ mg' h' tk, TI h₀ c Pl mg0 mb 5 mg' h' → Q .next { s with heap := h', toks := tk }) : wpAny (model prog w) A (exec (topS 4) (mainEnv P0 c F)) Q E s := by
  exact t.defn rfl (fun _ => rfl) (by decide) rfl rfl rfl (by decide) rfl rfl (lines_lt 4 (by decide)) (names_ne 4 (by decide)) (nset (by decide +kernel)) (by decide) hQ
theorem step_5 (hh : A.handled = none) (B : Bs mg0 mb) (t : TI h₀ c Pl mg0 mb 5 mg s.heap) (hQ : ∀ mg' h' tk, TI h₀ c Pl mg0 mb 6 mg' h' → Q .next { s with heap := h', toks := tk }) : wpAny (model prog w) A (exec (topS 5) (mainEnv P0 c F)) Q E s := by
  exact t.defn rfl (fun _ => rfl) (by decide) rfl rfl rfl (by decide) rfl rfl (lines_lt 5 (by decide)) (names_ne 5 (by decide)) (nset (by decide +kernel)) (by decide) hQ
theorem step_6 (hh : A.handled = none) (B : Bs mg0 mb) (t : TI h₀ c Pl mg0 mb 6 mg s.heap) (hQ : ∀ mg' h' tk, TI h₀ c Pl mg0 mb 7 mg' h' → Q .next { s with heap := h', toks := tk }) : wpAny (model prog w) A (exec (topS 6) (mainEnv P0 c F)) Q E s := by
  exact t.assign (P := fun v _ => ∃ t, v = .str _ t) rfl EM.str rfl rfl (by decide) (Nat.le_of_lt (lines_lt 6 (by decide))) (names_ne 6 (by decide)) (fun v h' h'' l hp hm hs hr => absurd hr (by decide)) hQ
theorem step_7 (hh : A.handled = none) (B : Bs mg0 mb) (t : TI h₀ c Pl mg0 mb 7 mg s.heap) (hQ : ∀ mg' h' tk, TI h₀ c Pl mg0 mb 8 mg' h' → Q .next { s with heap := h', toks := tk }) : wpAny (model prog w) A (exec (topS 7) (mainEnv P0 c F)) Q E s := by
  exact t.defn rfl (fun _ => rfl) (by decide) rfl rfl rfl (by decide) rfl rfl (lines_lt 7 (by decide)) (names_ne 7 (by decide)) (nset (by decide +kernel)) (by decide) hQ
theorem step_8 (hh : A.handled = none) (B : Bs mg0 mb) (t : TI h₀ c Pl mg0 mb 8 mg s.heap) (hQ : ∀ mg' h' tk, TI h₀ c Pl mg0 mb 9 mg' h' → Q .next { s with heap := h', toks := tk }) : wpAny (model prog w) A (exec (topS 8) (mainEnv P0 c F)) Q E s := by
  exact t.defn rfl (fun _ => rfl) (by decide) rfl rfl rfl (by decide) rfl rfl (lines_lt 8 (by decide)) (names_ne 8 (by decide)) (nset (by decide +kernel)) (by decide) hQ
theorem step_9 (hh : A.handled = none) (B : Bs mg0 mb) (t : TI h₀ c Pl mg0 mb 9 mg s.heap) (hQ : ∀ mg' h' tk, TI h₀ c Pl mg0 mb 10 mg' h' → Q .next { s with heap := h', toks := tk }) : wpAny (model prog w) A (exec (topS 9) (mainEnv P0 c F)) Q E s := by
  exact t.defn rfl (fun _ => rfl) (by decide) rfl rfl rfl (by decide) rfl rfl (lines_lt 9 (by decide)) (names_ne 9 (by decide)) (nset (by decide +kernel)) (by decide) hQ
theorem step_10 (hh : A.handled = none) (B : Bs mg0 mb) (t : TI h₀ c Pl mg0 mb 10 mg s.heap) (hQ : ∀ mg' h' tk, TI h₀ c Pl mg0 mb 11 mg' h' → Q .next { s with heap := h', toks := tk }) : wpAny (model prog w) A (exec (topS 10) (mainEnv P0 c F)) Q E s := by
  exact t.assign (P := fun v _ => ∃ t, v = .str _ t) rfl EM.str rfl rfl (by decide) (Nat.le_of_lt (lines_lt 10 (by decide))) (names_ne 10 (by decide)) (fun v h' h'' l hp hm hs hr => absurd hr (by decide)) hQ
theorem step_11 (hh : A.handled = none) (B : Bs mg0 mb) (t : TI h₀ c Pl mg0 mb 11 mg s.heap) (hQ : ∀ mg' h' tk, TI h₀ c Pl mg0 mb 12 mg' h' → Q .next { s with heap := h', toks := tk }) : wpAny (model prog w) A (exec (topS 11) (mainEnv P0 c F)) Q E s := by
  have hs := (t.miss (by decide) (x := "set") (by decide)).trans B.gset
  have hr := (t.miss (by decide) (x := "range") (by decide)).trans B.grange
  have hl := (t.miss (by decide) (x := "list") (by decide)).trans B.glist
  exact t.assign (P := SI (b1L.map Int.ofNat)) rfl (EM.setList (xs := b1L.map Int.ofNat) menv hh hs B.set (.add (.list (.cons (.cons (.cons (.cons (.cons (.cons (.cons (.cons (.cons (.cons (.cons .nil)))))))))))) (EM.listRange menv hh hr B.range hl B.list (.cons (.cons .nil)) (by decide +kernel) (n := 16) (by decide +kernel) (by decide))) rfl (by decide +kernel) (by decide +kernel)) rfl rfl (by decide) (Nat.le_of_lt (lines_lt 11 (by decide))) (names_ne 11 (by decide)) (fun v h' h'' l hp hm hs _ => set_item w (L := b1L) (by decide +kernel) (uniq (by decide +kernel)) rfl (by decide) (by decide) hp hm hs) hQ
theorem step_12 (hh : A.handled = none) (B : Bs mg0 mb) (t : TI h₀ c Pl mg0 mb 12 mg s.heap) (hQ : ∀ mg' h' tk, TI h₀ c Pl mg0 mb 13 mg' h' → Q .next { s with heap := h', toks := tk }) : wpAny (model prog w) A (exec (topS 12) (mainEnv P0 c F)) Q E s := by
  exact t.defn rfl (fun _ => rfl) (by decide) rfl rfl rfl (by decide) rfl rfl (lines_lt 12 (by decide)) (names_ne 12 (by decide)) (nset (by decide +kernel)) (by decide) hQ
theorem step_13 (hh : A.handled = none) (B : Bs mg0 mb) (t : TI h₀ c Pl mg0 mb 13 mg s.heap) (hQ : ∀ mg' h' tk, TI h₀ c Pl mg0 mb 14 mg' h' → Q .next { s with heap := h', toks := tk }) : wpAny (model prog w) A (exec (topS 13) (mainEnv P0 c F)) Q E s := by
  exact t.defn rfl (fun _ => rfl) (by decide) rfl rfl rfl (by decide) rfl rfl (lines_lt 13 (by decide)) (names_ne 13 (by decide)) (nset (by decide +kernel)) (by decide) hQ
theorem step_14 (hh : A.handled = none) (B : Bs mg0 mb) (t : TI h₀ c Pl mg0 mb 14 mg s.heap) (hQ : ∀ mg' h' tk, TI h₀ c Pl mg0 mb 15 mg' h' → Q .next { s with heap := h', toks := tk }) : wpAny (model prog w) A (exec (topS 14) (mainEnv P0 c F)) Q E s := by
  have hs := (t.miss (by decide) (x := "set") (by decide)).trans B.gset
  have hr := (t.miss (by decide) (x := "range") (by decide)).trans B.grange
  have hl := (t.miss (by decide) (x := "list") (by decide)).trans B.glist
  exact t.assign (P := SI (c6L.map Int.ofNat)) rfl (EM.setRange (n := 5) (xs := c6L.map Int.ofNat) menv hh hr B.range hs B.set (.cons (.cons .nil)) (by decide +kernel) (by decide +kernel) (by decide) (by decide +kernel) (by decide +kernel)) rfl rfl (by decide) (Nat.le_of_lt (lines_lt 14 (by decide))) (names_ne 14 (by decide)) (fun v h' h'' l hp hm hs _ => set_item w (L := c6L) (by decide +kernel) (uniq (by decide +kernel)) rfl (by decide) (by decide) hp hm hs) hQ
theorem step_15 (hh : A.handled = none) (B : Bs mg0 mb) (t : TI h₀ c Pl mg0 mb 15 mg s.heap) (hQ : ∀ mg' h' tk, TI h₀ c Pl mg0 mb 16 mg' h' → Q .next { s with heap := h', toks := tk }) : wpAny (model prog w) A (exec (topS 15) (mainEnv P0 c F)) Q E s := by
  exact t.defn rfl (fun _ => rfl) (by decide) rfl rfl rfl (by decide) rfl rfl (lines_lt 15 (by decide)) (names_ne 15 (by decide)) (nset (by decide +kernel)) (by decide) hQ
theorem step_16 (hh : A.handled = none) (B : Bs mg0 mb) (t : TI h₀ c Pl mg0 mb 16 mg s.heap) (hQ : ∀ mg' h' tk, TI h₀ c Pl mg0 mb 17 mg' h' → Q .next { s with heap := h', toks := tk }) : wpAny (model prog w) A (exec (topS 16) (mainEnv P0 c F)) Q E s := by
  have hs := (t.miss (by decide) (x := "set") (by decide)).trans B.gset
  have hr := (t.miss (by decide) (x := "range") (by decide)).trans B.grange
  have hl := (t.miss (by decide) (x := "list") (by decide)).trans B.glist
  exact t.assign (P := SI (c7L.map Int.ofNat)) rfl (EM.setRange (n := 12) (xs := c7L.map Int.ofNat) menv hh hr B.range hs B.set (.cons (.cons .nil)) (by decide +kernel) (by decide +kernel) (by decide) (by decide +kernel) (by decide +kernel)) rfl rfl (by decide) (Nat.le_of_lt (lines_lt 16 (by decide))) (names_ne 16 (by decide)) (fun v h' h'' l hp hm hs _ => set_item w (L := c7L) (by decide +kernel) (uniq (by decide +kernel)) rfl (by decide) (by decide) hp hm hs) hQ
theorem step_17 (hh : A.handled = none) (B : Bs mg0 mb) (t : TI h₀ c Pl mg0 mb 17 mg s.heap) (hQ : ∀ mg' h' tk, TI h₀ c Pl mg0 mb 18 mg' h' → Q .next { s with heap := h', toks := tk }) : wpAny (model prog w) A (exec (topS 17) (mainEnv P0 c F)) Q E s := by
  exact t.defn rfl (fun _ => rfl) (by decide) rfl rfl rfl (by decide) rfl rfl (lines_lt 17 (by decide)) (names_ne 17 (by decide)) (nset (by decide +kernel)) (by decide) hQ
theorem step_18 (hh : A.handled = none) (B : Bs mg0 mb) (t : TI h₀ c Pl mg0 mb 18 mg s.heap) (hQ : ∀ mg' h' tk, TI h₀ c Pl mg0 mb 19 mg' h' → Q .next { s with heap := h', toks := tk }) : wpAny (model prog w) A (exec (topS 18) (mainEnv P0 c F)) Q E s := by
  have hs := (t.miss (by decide) (x := "set") (by decide)).trans B.gset
  have hr := (t.miss (by decide) (x := "range") (by decide)).trans B.grange
  have hl := (t.miss (by decide) (x := "list") (by decide)).trans B.glist
  exact t.assign (P := SI (c8L.map Int.ofNat)) rfl (EM.setList (xs := c8L.map Int.ofNat) menv hh hs B.set (.add (.add (.list (.cons (.cons (.cons (.cons .nil))))) (EM.listRange menv hh hr B.range hl B.list (.cons (.cons .nil)) (by decide +kernel) (n := 5) (by decide +kernel) (by decide))) (EM.listRange menv hh hr B.range hl B.list (.cons (.cons .nil)) (by decide +kernel) (n := 6) (by decide +kernel) (by decide))) rfl (by decide +kernel) (by decide +kernel)) rfl rfl (by decide) (Nat.le_of_lt (lines_lt 18 (by decide))) (names_ne 18 (by decide)) (fun v h' h'' l hp hm hs _ => set_item w (L := c8L) (by decide +kernel) (uniq (by decide +kernel)) rfl (by decide) (by decide) hp hm hs) hQ
theorem step_19 (hh : A.handled = none) (B : Bs mg0 mb) (t : TI h₀ c Pl mg0 mb 19 mg s.heap) (hQ : ∀ mg' h' tk, TI h₀ c Pl mg0 mb 20 mg' h' → Q .next { s with heap := h', toks := tk }) : wpAny (model prog w) A (exec (topS 19) (mainEnv P0 c F)) Q E s := by
  exact t.defn rfl (fun _ => rfl) (by decide) rfl rfl rfl (by decide) rfl rfl (lines_lt 19 (by decide)) (names_ne 19 (by decide)) (nset (by decide +kernel)) (by decide) hQ
theorem step_20 (hh : A.handled = none) (B : Bs mg0 mb) (t : TI h₀ c Pl mg0 mb 20 mg s.heap) (hQ : ∀ mg' h' tk, TI h₀ c Pl mg0 mb 21 mg' h' → Q .next { s with heap := h', toks := tk }) : wpAny (model prog w) A (exec (topS 20) (mainEnv P0 c F)) Q E s := by
  have hs := (t.miss (by decide) (x := "set") (by decide)).trans B.gset
  have hr := (t.miss (by decide) (x := "range") (by decide)).trans B.grange
  have hl := (t.miss (by decide) (x := "list") (by decide)).trans B.glist
  exact t.assign (P := SI (c9L.map Int.ofNat)) rfl (EM.setList (xs := c9L.map Int.ofNat) menv hh hs B.set (.add (.list (.cons .nil)) (EM.listRange menv hh hr B.range hl B.list (.cons (.cons .nil)) (by decide +kernel) (n := 96) (by decide +kernel) (by decide))) rfl (by decide +kernel) (by decide +kernel)) rfl rfl (by decide) (Nat.le_of_lt (lines_lt 20 (by decide))) (names_ne 20 (by decide)) (fun v h' h'' l hp hm hs _ => set_item w (L := c9L) (by decide +kernel) (uniq (by decide +kernel)) rfl (by decide) (by decide) hp hm hs) hQ
theorem step_21 (hh : A.handled = none) (B : Bs mg0 mb) (t : TI h₀ c Pl mg0 mb 21 mg s.heap) (hQ : ∀ mg' h' tk, TI h₀ c Pl mg0 mb 22 mg' h' → Q .next { s with heap := h', toks := tk }) : wpAny (model prog w) A (exec (topS 21) (mainEnv P0 c F)) Q E s := by
  exact t.defn rfl (fun _ => rfl) (by decide) rfl rfl rfl (by decide) rfl rfl (lines_lt 21 (by decide)) (names_ne 21 (by decide)) (nset (by decide +kernel)) (by decide) hQ
theorem step_22 (hh : A.handled = none) (B : Bs mg0 mb) (t : TI h₀ c Pl mg0 mb 22 mg s.heap) (hQ : ∀ mg' h' tk, TI h₀ c Pl mg0 mb 23 mg' h' → Q .next { s with heap := h', toks := tk }) : wpAny (model prog w) A (exec (topS 22) (mainEnv P0 c F)) Q E s := by
  exact t.assign (P := fun v _ => ∃ t, v = .str _ t) rfl EM.str rfl rfl (by decide) (Nat.le_of_lt (lines_lt 22 (by decide))) (names_ne 22 (by decide)) (fun v h' h'' l hp hm hs hr => absurd hr (by decide)) hQ
theorem step_23 (hh : A.handled = none) (B : Bs mg0 mb) (t : TI h₀ c Pl mg0 mb 23 mg s.heap) (hQ : ∀ mg' h' tk, TI h₀ c Pl mg0 mb 24 mg' h' → Q .next { s with heap := h', toks := tk }) : wpAny (model prog w) A (exec (topS 23) (mainEnv P0 c F)) Q E s := by
  exact t.defn rfl (fun _ => rfl) (by decide) rfl rfl rfl (by decide) rfl rfl (lines_lt 23 (by decide)) (names_ne 23 (by decide)) (nset (by decide +kernel)) (by decide) hQ
theorem step_24 (hh : A.handled = none) (B : Bs mg0 mb) (t : TI h₀ c Pl mg0 mb 24 mg s.heap) (hQ : ∀ mg' h' tk, TI h₀ c Pl mg0 mb 25 mg' h' → Q .next { s with heap := h', toks := tk }) : wpAny (model prog w) A (exec (topS 24) (mainEnv P0 c F)) Q E s := by
  exact t.defn rfl (fun _ => rfl) (by decide) rfl rfl rfl (by decide) rfl rfl (lines_lt 24 (by decide)) (names_ne 24 (by decide)) (nset (by decide +kernel)) (by decide) hQ
theorem step_25 (hh : A.handled = none) (B : Bs mg0 mb) (t : TI h₀ c Pl mg0 mb 25 mg s.heap) (hQ : ∀ mg' h' tk, TI h₀ c Pl mg0 mb 26 mg' h' → Q .next { s with heap := h', toks := tk }) : wpAny (model prog w) A (exec (topS 25) (mainEnv P0 c F)) Q E s := by
  exact t.defn rfl (fun _ => rfl) (by decide) rfl rfl rfl (by decide) rfl rfl (lines_lt 25 (by decide)) (names_ne 25 (by decide)) (nset (by decide +kernel)) (by decide) hQ
theorem step_26 (hh : A.handled = none) (B : Bs mg0 mb) (t : TI h₀ c Pl mg0 mb 26 mg s.heap) (hQ : ∀ mg' h' tk, TI h₀ c Pl mg0 mb 27 mg' h' → Q .next { s with heap := h', toks := tk }) : wpAny (model prog w) A (exec (topS 26) (mainEnv P0 c F)) Q E s := by
  exact t.defn rfl (fun _ => rfl) (by decide) rfl rfl rfl (by decide) rfl rfl (lines_lt 26 (by decide)) (names_ne 26 (by decide)) (nset (by decide +kernel)) (by decide) hQ
theorem step_27 (hh : A.handled = none) (B : Bs mg0 mb) (t : TI h₀ c Pl mg0 mb 27 mg s.heap) (hQ : ∀ mg' h' tk, TI h₀ c Pl mg0 mb 28 mg' h' → Q .next { s with heap := h', toks := tk }) : wpAny (model prog w) A (exec (topS 27) (mainEnv P0 c F)) Q E s := by
  exact t.defn rfl (fun _ => rfl) (by decide) rfl rfl rfl (by decide) rfl rfl (lines_lt 27 (by decide)) (names_ne 27 (by decide)) (nset (by decide +kernel)) (by decide) hQ
theorem step_28 (hh : A.handled = none) (B : Bs mg0 mb) (t : TI h₀ c Pl mg0 mb 28 mg s.heap) (hQ : ∀ mg' h' tk, TI h₀ c Pl mg0 mb 29 mg' h' → Q .next { s with heap := h', toks := tk }) : wpAny (model prog w) A (exec (topS 28) (mainEnv P0 c F)) Q E s := by
  exact t.defn rfl (fun _ => rfl) (by decide) rfl rfl rfl (by decide) rfl rfl (lines_lt 28 (by decide)) (names_ne 28 (by decide)) (nset (by decide +kernel)) (by decide) hQ
theorem step_29 (hh : A.handled = none) (B : Bs mg0 mb) (t : TI h₀ c Pl mg0 mb 29 mg s.heap) (hQ : ∀ mg' h' tk, TI h₀ c Pl mg0 mb 30 mg' h' → Q .next { s with heap := h', toks := tk }) : wpAny (model prog w) A (exec (topS 29) (mainEnv P0 c F)) Q E s := by
  exact t.defn rfl (fun _ => rfl) (by decide) rfl rfl rfl (by decide) rfl rfl (lines_lt 29 (by decide)) (names_ne 29 (by decide)) (nset (by decide +kernel)) (by decide) hQ
theorem step_30 (hh : A.handled = none) (B : Bs mg0 mb) (t : TI h₀ c Pl mg0 mb 30 mg s.heap) (hQ : ∀ mg' h' tk, TI h₀ c Pl mg0 mb 31 mg' h' → Q .next { s with heap := h', toks := tk }) : wpAny (model prog w) A (exec (topS 30) (mainEnv P0 c F)) Q E s := by
  exact t.defn rfl (fun _ => rfl) (by decide) rfl rfl rfl (by decide) rfl rfl (lines_lt 30 (by decide)) (names_ne 30 (by decide)) (nset (by decide +kernel)) (by decide) hQ
theorem step_31 (hh : A.handled = none) (B : Bs mg0 mb) (t : TI h₀ c Pl mg0 mb 31 mg s.heap) (hQ : ∀ mg' h' tk, TI h₀ c Pl mg0 mb 32 mg' h' → Q .next { s with heap := h', toks := tk }) : wpAny (model prog w) A (exec (topS 31) (mainEnv P0 c F)) Q E s := by
  exact t.defn rfl (fun _ => rfl) (by decide) rfl rfl rfl (by decide) rfl rfl (lines_lt 31 (by decide)) (names_ne 31 (by decide)) (nset (by decide +kernel)) (by decide) hQ
theorem step_32 (hh : A.handled = none) (B : Bs mg0 mb) (t : TI h₀ c Pl mg0 mb 32 mg s.heap) (hQ : ∀ mg' h' tk, TI h₀ c Pl mg0 mb 33 mg' h' → Q .next { s with heap := h', toks := tk }) : wpAny (model prog w) A (exec (topS 32) (mainEnv P0 c F)) Q E s := by
  exact t.defn rfl (fun _ => rfl) (by decide) rfl rfl rfl (by decide) rfl rfl (lines_lt 32 (by decide)) (names_ne 32 (by decide)) (nset (by decide +kernel)) (by decide) hQ
theorem step_33 (hh : A.handled = none) (B : Bs mg0 mb) (t : TI h₀ c Pl mg0 mb 33 mg s.heap) (hQ : ∀ mg' h' tk, TI h₀ c Pl mg0 mb 34 mg' h' → Q .next { s with heap := h', toks := tk }) : wpAny (model prog w) A (exec (topS 33) (mainEnv P0 c F)) Q E s := by
  exact t.defn rfl (fun _ => rfl) (by decide) rfl rfl rfl (by decide) rfl rfl (lines_lt 33 (by decide)) (names_ne 33 (by decide)) (nset (by decide +kernel)) (by decide) hQ
theorem step_34 (hh : A.handled = none) (B : Bs mg0 mb) (t : TI h₀ c Pl mg0 mb 34 mg s.heap) (hQ : ∀ mg' h' tk, TI h₀ c Pl mg0 mb 35 mg' h' → Q .next { s with heap := h', toks := tk }) : wpAny (model prog w) A (exec (topS 34) (mainEnv P0 c F)) Q E s := by
  exact t.defn rfl (fun _ => rfl) (by decide) rfl rfl rfl (by decide) rfl rfl (lines_lt 34 (by decide)) (names_ne 34 (by decide)) (nset (by decide +kernel)) (by decide) hQ
theorem step_35 (hh : A.handled = none) (B : Bs mg0 mb) (t : TI h₀ c Pl mg0 mb 35 mg s.heap) (hQ : ∀ mg' h' tk, TI h₀ c Pl mg0 mb 36 mg' h' → Q .next { s with heap := h', toks := tk }) : wpAny (model prog w) A (exec (topS 35) (mainEnv P0 c F)) Q E s := by
  exact t.defn rfl (fun _ => rfl) (by decide) rfl rfl rfl (by decide) rfl rfl (lines_lt 35 (by decide)) (names_ne 35 (by decide)) (nset (by decide +kernel)) (by decide) hQ
theorem step_36 (hh : A.handled = none) (B : Bs mg0 mb) (t : TI h₀ c Pl mg0 mb 36 mg s.heap) (hQ : ∀ mg' h' tk, TI h₀ c Pl mg0 mb 37 mg' h' → Q .next { s with heap := h', toks := tk }) : wpAny (model prog w) A (exec (topS 36) (mainEnv P0 c F)) Q E s := by
  exact t.defn rfl (fun _ => rfl) (by decide) rfl rfl rfl (by decide) rfl rfl (lines_lt 36 (by decide)) (names_ne 36 (by decide)) (nset (by decide +kernel)) (by decide) hQ
theorem step_all (hh : A.handled = none) (B : Bs mg0 mb) : ∀ k, k < 37 → ∀ (mg : Str → Option Value) (s : Shared), TI h₀ c Pl mg0 mb k mg s.heap → (∀ mg' h' tk, TI h₀ c Pl mg0 mb (k + 1) mg' h' → Q .next { s with heap := h', toks := tk }) → wpAny (model prog w) A (exec (topS k) (mainEnv P0 c F)) Q E s
  | 0, _, _, _, t, hQ => step_0 hh B t hQ
  | 1, _, _, _, t, hQ => step_1 hh B t hQ
  | 2, _, _, _, t, hQ => step_2 hh B t hQ
  | 3, _, _, _, t, hQ => step_3 hh B t hQ
  | 4, _, _, _, t, hQ => step_4 hh B t hQ
  | 5, _, _, _, t, hQ => step_5 hh B t hQ
  | 6, _, _, _, t, hQ => step_6 hh B t hQ
  | 7, _, _, _, t, hQ => step_7 hh B t hQ
  | 8, _, _, _, t, hQ => step_8 hh B t hQ
  | 9, _, _, _, t, hQ => step_9 hh B t hQ
  | 10, _, _, _, t, hQ => step_10 hh B t hQ
  | 11, _, _, _, t, hQ => step_11 hh B t hQ
  | 12, _, _, _, t, hQ => step_12 hh B t hQ
  | 13, _, _, _, t, hQ => step_13 hh B t hQ
  | 14, _, _, _, t, hQ => step_14 hh B t hQ
  | 15, _, _, _, t, hQ => step_15 hh B t hQ
  | 16, _, _, _, t, hQ => step_16 hh B t hQ
  | 17, _, _, _, t, hQ => step_17 hh B t hQ
  | 18, _, _, _, t, hQ => step_18 hh B t hQ
  | 19, _, _, _, t, hQ => step_19 hh B t hQ
  | 20, _, _, _, t, hQ => step_20 hh B t hQ
  | 21, _, _, _, t, hQ => step_21 hh B t hQ
  | 22, _, _, _, t, hQ => step_22 hh B t hQ
  | 23, _, _, _, t, hQ => step_23 hh B t hQ
  | 24, _, _, _, t, hQ => step_24 hh B t hQ
  | 25, _, _, _, t, hQ => step_25 hh B t hQ
  | 26, _, _, _, t, hQ => step_26 hh B t hQ
  | 27, _, _, _, t, hQ => step_27 hh B t hQ
  | 28, _, _, _, t, hQ => step_28 hh B t hQ
  | 29, _, _, _, t, hQ => step_29 hh B t hQ
  | 30, _, _, _, t, hQ => step_30 hh B t hQ
  | 31, _, _, _, t, hQ => step_31 hh B t hQ
  | 32, _, _, _, t, hQ => step_32 hh B t hQ
  | 33, _, _, _, t, hQ => step_33 hh B t hQ
  | 34, _, _, _, t, hQ => step_34 hh B t hQ
  | 35, _, _, _, t, hQ => step_35 hh B t hQ
  | 36, _, _, _, t, hQ => step_36 hh B t hQ
  | k + 37, h, _, _, _, _ => absurd h (by omega)
theorem run_all (hh : A.handled = none) (B : Bs mg0 mb) : ∀ (n k : Nat), k + n = 37 → ∀ (mg : Str → Option Value) (s : Shared), TI h₀ c Pl mg0 mb k mg s.heap → (∀ mg' h' tk, TI h₀ c Pl mg0 mb 37 mg' h' → Q .next { s with heap := h', toks := tk }) →
    wpAny (model prog w) A (execs ((List.range' k n).map topS) (mainEnv P0 c F)) Q E s
  | 0, k, hk, mg, s, t, hQ => by
    have : k = 37 := by omega
    subst this
    exact wpAny_execs_nil (hQ mg s.heap s.toks t)
  | n + 1, k, hk, mg, s, t, hQ => by
    rw [List.range'_succ, List.map_cons]
    exact wpAny_execs_cons (step_all hh B k (by omega) mg s t fun mg' h' tk t' => run_all hh B n (k + 1) (by omega) mg' _ t' hQ)
theorem body_eq : P0.main.body = (List.range' 0 37).map topS := rfl
end
end Mine

namespace Mine
open PySem PySem.Calls PyProof.Rows

theorem sched_of {p : Program} {w : World} {s' : Shared} {t' : Thread} : ∀ (n : Nat) (s : Shared) (t : Thread), s.asleep → (∀ k s₁ t₁, runN (denote table) p w k s t = .running s₁ t₁ → t₁.calm = true) → runN (denote table) p w n s t = .running s' t' →
    schedN (denote table) p w n (.single s t) = .running (.single s' t')
  | 0, s, t, _, _, h => by
    injection h with h1 h2
    subst h1; subst h2; rfl
  | n + 1, s, t, hr, hc, h => by
    change (match step (denote table) p w s t with | .go s₁ t₁ => runN (denote table) p w n s₁ t₁ | .halt o s₁ => .halted o s₁) = _ at h
    cases hs : step (denote table) p w s t with
    | halt o s₁ => rw [hs] at h; cases h
    | go s₁ t₁ =>
      rw [hs] at h
      have hl := step_life (denote table) p w s s₁ t t₁ hs
      have ih := sched_of n s₁ t₁ (Shared.asleep_of_life hl hr) (fun k s₂ t₂ h2 => hc (k + 1) s₂ t₂ (by
        change (match step (denote table) p w s t with | .go s₁ t₁ => runN (denote table) p w k s₁ t₁ | .halt o s₁ => .halted o s₁) = _
        rw [hs]; exact h2)) h
      have e : sstep (denote table) p w (.single s t) = .go (.single s₁ t₁) := by
        rcases sstep_single (denote table) p w s t (hc 0 s t rfl) hr with e | e
        · rw [e, hs]; rfl
        · rw [hs] at e; cases e
      change (match sstep (denote table) p w (.single s t) with | .go c' => schedN (denote table) p w n c' | .halt o s => .halted o s) = _
      rw [e]; exact ih
theorem thread_ran {prog : Program} {w : World} {t : Sem Fin} {s : Shared} {R : Shared → Prop} (hreg : s.asleep)
    (h : wpAny (model prog w) callerA t (fun fin s' => ∃ f, fin = .done f ∧ R s' ∧ s'.gens = #[]) (fun e s' => False) s) :
    ∃ s', R s' ∧ s'.gens = #[] ∧ s'.heap.life = s.heap.life ∧ ∃ n t₁, schedN (denote table) prog w n (.single s ⟨t, .builtin "claim.caller" {}, default, []⟩) = .running (.single s' t₁) ∧ W.through t₁ = true := by
  have hw := wp_of_wpAny_done (M := model prog w) (t := t) (s := s) (R := fun r s' => True ∧ leftWithCleanup s'.gens = false) caller_in
    (wpAny_mono h (fun fin s' ⟨f, e, h1, h2⟩ => ⟨f, e, trivial, by rw [h2]; simp [leftWithCleanup]⟩) fun _ _ x => x.elim) default
  obtain ⟨n, r, s₁, hn, _⟩ := (wp_iff_halts t (fun r s' => True) default s).mp hw
  obtain ⟨_, _, _, _, hc⟩ := (halts_real_iff (M := model prog w) s₁.forget).mpr ⟨n, s₁, hn, rfl⟩
  obtain ⟨m, s', σ, p', leaf, hm, hf, hl⟩ := wp_reaches (h _ default caller_in)
  rcases hl with ⟨a, rfl, f, rfl, hR, hg⟩ | ⟨e, _, x⟩
  · obtain rfl := Shared.eq_of_forget_eq hf hg
    exact ⟨_, hR, hg, runN_life_running hm, m, _, sched_of m s _ hreg hc hm, rfl⟩
  · exact x.elim
end Mine

namespace Mine
open PySem PySem.Calls PyProof.Rows

theorem boot_ends (w : World) : (∃ s, AfterImport (W.opening P0) w s) ∧ ∀ s, AfterImport (W.opening P0) w s → ∃ mb mg c Pl, BootLeft9 (W.opening P0) s.heap mb mg c Pl ∧ s.gens = #[] :=
  AfterImport.of_body9 (P := fun s => ∃ mb mg c Pl, BootLeft9 (W.opening P0) s.heap mb mg c Pl ∧ s.gens = #[]) (out := #[]) (fun hp tk mb mg c Pl F hB => by
    rw [show (W.opening P0).main.body = [] from rfl]
    exact codeAny_body rfl rfl (wpAny_execs_nil ⟨⟨_, rfl⟩, .of hB.toBootLeft (fun _ _ _ _ e => e) hB.g, ⟨mb, mg, c, Pl, hB, rfl⟩, rfl⟩)) rfl

theorem bs_of {h : Heap} {mb mg : Str → Option Value} {c Pl : Addr} (hB : BootLeft9 (W.opening P0) h mb mg c Pl) : Bs mg mb :=
  ⟨hB.others _ (by decide), hB.others _ (by decide), hB.others _ (by decide), (hB.builtins _ (by decide)).trans (by decide +kernel), (hB.builtins _ (by decide)).trans (by decide +kernel), (hB.builtins _ (by decide)).trans (by decide +kernel)⟩
theorem top_tree (w : World) {s : Shared} {mb mg : Str → Option Value} {c0 Pl0 : Addr} (hB : BootLeft9 (W.opening P0) s.heap mb mg c0 Pl0) (hg : s.gens = #[]) :
    wpAny (model P0 w) callerA (W.topStub P0).cur (fun fin s' => ∃ f, fin = .done f ∧ (s'.os = s.os ∧ ∃ c Pl mg', TI s.heap c Pl mg mb 37 mg' s'.heap) ∧ s'.gens = #[]) (fun e s' => False) s := by
  show wpAny _ _ (do
      let code ← moduleCode P0.main
      let frame ← newBodyFrame code mainNs mainNs
      let _ ← run (.body (W.behindTheImports P0) { scope := P0.main.scope, locals := mainNs, globals := mainNs, cells := [], code, frame := some frame })
      ret .none) _ _ s
  refine wpAny_bind (wpAny_moduleCode fun c Pl h' tk kp hc hPl hcode => ?_)
  unfold newBodyFrame
  refine wpAny_bind (wpAny_bind (wpAny_nsGet (hB.g.keeps kp) (wpAny_alloc ?_)))
  have k2 : ∀ o, Kept s.heap (h'.push o) := fun o b ob e => Heap.get?_push_of_some o (kp b ob e)
  have hlt : mainGlobals < s.heap.objs.size := hB.g.lt
  have t0 : ∀ o, TI s.heap c Pl mg mb 0 mg (h'.push o) := fun o => by
    obtain ⟨bm, ob, h1, h2, h3, h4, h5, h6⟩ := hB.bmod
    exact ⟨⟨[], ⟨hB.g.keeps (k2 o), hcode.push o, ⟨Nat.lt_of_lt_of_le hlt hc, Nat.lt_of_lt_of_le hlt hPl⟩, ⟨bm, ob, h1, h2, h3, Nat.ne_of_lt (Nat.lt_of_lt_of_le (Heap.lt_size h5) hPl), k2 o _ _ h5, h6⟩⟩, fun q h => nomatch h⟩, hB.b, fun b ob _ e => k2 o b ob e, fun x _ => rfl, hPl, fun j hj => absurd hj (Nat.not_lt_zero j)⟩
  have hbody : W.behindTheImports P0 = (List.range' 0 37).map topS := rfl
  rw [hbody]
  refine wpAny_bind (wpAny_run (codeAny_body (by rfl) (by rfl) ?_))
  refine run_all (h₀ := s.heap) (c := c) (Pl := Pl) (mg0 := mg) (mb := mb) rfl (bs_of hB) 37 0 rfl mg _ (t0 _) fun mg' h'' tk' t => ?_
  exact wpAny_pure ⟨_, rfl, ⟨rfl, c, Pl, mg', t⟩, hg⟩
end Mine

namespace Mine
open PySem PySem.Calls PyProof.Rows

theorem names_bound : ∀ j, j < 37 → P0.boundNames.contains (nameAt j) = true := by decide +kernel
theorem names_laid : ∀ x ∈ W.laidNames, ∀ j, j < 37 → nameAt j ≠ x := by decide +kernel
theorem boot_start : ∀ x ∈ bootMainNames, x ∈ startupNames := by decide +kernel
structure TopGone (w : World) (s s₁ : Shared) (mb mg mg' : Str → Option Value) (c Pl : Addr) : Prop where
  ran : W.TopRan P0 w s s₁
  asleep : s₁.asleep
  gens : s₁.gens = #[]
  ti : TI s.heap c Pl mg mb 37 mg' s₁.heap
  kept : Pin.Kept (W.opening P0) s₁.heap mg mb
theorem top_gone (w : World) {s : Shared} {mb mg : Str → Option Value} {c0 Pl0 : Addr} (hz : s.asleep) (hB : BootLeft9 (W.opening P0) s.heap mb mg c0 Pl0) (hg : s.gens = #[]) : ∃ s₁ mg' c Pl, TopGone w s s₁ mb mg mg' c Pl := by
  obtain ⟨s₁, ⟨hos, c, Pl, mg', t⟩, hgens, hlife, n, t₁, hn, ht⟩ := thread_ran hz (top_tree w hB hg)
  have K : Pin.Kept (W.opening P0) s₁.heap mg mb := .of hB fun b o _ hG e => t.keep b o hG e
  obtain ⟨l, hm, _⟩ := t.main
  have hg1 := hm.g
  refine ⟨s₁, mg', c, Pl, ⟨⟨n, t₁, hn, ht⟩, hlife, Shared.rest_eq hos, fun b o e hnn => t.keep b o (fun q => hnn (.inl q)) e, ?_, fun key => .inl ((Pin.staticOf_of_ns K.statics key).trans (Pin.staticOf_of_ns hB.statics key).symm), Pin.keysAreStrs_of_ns hg1,
    fun x hx => (Pin.builtinOf_of_ns K.b x).trans (K.builtins x hx), ?_, fun g hg' => ?_, fun x v hx => ?_, fun x hx => ?_⟩, Shared.asleep_of_life hlife hz, hgens, t, K⟩
  · exact staticsI_of (fun key v hv => by rw [Pin.staticOf_of_ns K.statics key] at hv; cases hv)
  · obtain ⟨bm, o, hbm, hbo, hcls, hdict⟩ := K.bmod
    exact ⟨bm, o, (Claim2Try.globalOf_of_ns hg1 _).trans ((t.old _ fun j hj => names_bn j hj).trans hbm), hbo, hcls, hdict⟩
  · rw [hgens] at hg'; simp at hg'
  · rw [Claim2Try.globalOf_of_ns hg1] at hx
    by_cases hj : ∃ j, j < 37 ∧ nameAt j = x
    · obtain ⟨j, hj, rfl⟩ := hj
      exact .inr (List.contains_iff_mem.mp (names_bound j hj))
    · rw [t.old x fun j h e => hj ⟨j, h, e⟩] at hx
      by_cases hb : x ∈ bootMainNames
      · exact .inl (boot_start x hb)
      · rw [hB.others x hb] at hx; cases hx
  · rw [Claim2Try.globalOf_of_ns hg1, Claim2Try.globalOf_of_ns hB.g]
    exact t.old x fun j hj => names_laid x hx j hj

theorem names_none : ∀ x ∈ (["ord", "chr", "len", "sum", "isinstance", "range", "enumerate", "tuple"] : List Str), ∀ j, j < 37 → nameAt j ≠ x := by decide +kernel
theorem boot_none : ∀ x ∈ (["ord", "chr", "len", "sum", "isinstance", "range", "enumerate", "tuple"] : List Str), x ∉ bootMainNames := by decide +kernel
theorem fn_name : ∀ k ∈ defIdx, nameAt k = fnName (topS k) := by decide +kernel
theorem def_rel : ∀ k ∈ defIdx, k < 37 ∧ rel k = true := by decide +kernel
theorem set_rel : ∀ p ∈ setT, p.1 < 37 ∧ rel p.1 = true := by decide +kernel
theorem set_T : ([("b1_set", b1L), ("c6_set", c6L), ("c7_set", c7L), ("c8_set", c8L), ("c9_set", c9L)] : List (String × List Nat)).map (fun p => (Str.ofString p.1, p.2)) = setT.map fun p => (nameAt p.1, p.2) := by decide +kernel

theorem tops_of {w : World} {s s₁ : Shared} {mb mg mg' : Str → Option Value} {c Pl : Addr} (G : TopGone w s s₁ mb mg mg' c Pl) : ∃ T : TopF s₁.heap, T.mg = mg' ∧ T.mb = mb ∧ Nonempty (Tops s₁.heap T) := by
  obtain ⟨l, hm, _⟩ := G.ti.main
  let T : TopF s₁.heap := ⟨mg', mb, hm.g, G.kept.b, ⟨_, G.kept.statics, rfl⟩⟩
  refine ⟨T, rfl, rfl, ?_⟩
  have hbl : ∀ (x : Str) (v : Value), x ∈ (["ord", "chr", "len", "sum", "isinstance", "range", "enumerate", "tuple"] : List Str) → bootBuiltins x = some v → x ≠ "__name__" → Glob T x v := fun x v hx e hn =>
    .inr ⟨(G.ti.old x fun j hj => names_none x hx j hj).trans (G.kept.others x (boot_none x hx)), (G.kept.builtins x hn).trans e⟩
  have hd : ∀ k, ∃ q : Addr × Value × Value, k ∈ defIdx → Glob T (fnName (topS k)) (.ref q.1) ∧ DefAt s₁.heap q.1 k q.2.1 q.2.2 := fun k => by
    by_cases hk : k ∈ defIdx
    · obtain ⟨h1, h2⟩ := def_rel k hk
      obtain ⟨a, c', pm, e1, e2, e3, _, _⟩ := (G.ti.item k h1 h2).fn hk
      exact ⟨(a, pm, .ref c'), fun _ => ⟨.inl (by rw [← fn_name k hk]; exact e1), ⟨e2, e3⟩⟩⟩
    · exact ⟨(0, .none, .none), fun q => absurd q hk⟩
  obtain ⟨f, hf⟩ := Classical.axiomOfChoice hd
  refine ⟨{ adr := fun k => (f k).1, pm := fun k => (f k).2.1, cd := fun k => (f k).2.2, tick := ?_, ord := hbl _ _ (by decide) (by decide +kernel) (by decide), chr := hbl _ _ (by decide) (by decide +kernel) (by decide), len := hbl _ _ (by decide) (by decide +kernel) (by decide), sum := hbl _ _ (by decide) (by decide +kernel) (by decide), isi := hbl _ _ (by decide) (by decide +kernel) (by decide), range := hbl _ _ (by decide) (by decide +kernel) (by decide), enum := hbl _ _ (by decide) (by decide +kernel) (by decide), tuple := hbl _ _ (by decide) (by decide +kernel) (by decide), defs := fun k hk => hf k hk, set := fun p hp => ?_ }⟩
  · obtain ⟨t, e⟩ := (G.ti.item 1 (by decide) rfl).tick rfl
    exact ⟨t, .inl e⟩
  · have hp' : (Str.ofString p.1, p.2) ∈ setT.map fun p => (nameAt p.1, p.2) := by
      rw [← set_T]; exact List.mem_map.mpr ⟨p, hp, rfl⟩
    obtain ⟨q, hq, e⟩ := List.mem_map.mp hp'
    obtain ⟨h1, h2⟩ := set_rel q hq
    obtain ⟨a, o, m, e1, e2, e3, e4, _, _⟩ := (G.ti.item q.1 h1 h2).set q hq rfl
    have en : nameAt q.1 = Str.ofString p.1 := congrArg Prod.fst e
    have el : q.2 = p.2 := congrArg Prod.snd e
    exact ⟨a, o, m, .inl (by rw [← en]; exact e1), e2, el ▸ e3, e4⟩
theorem law_def {w : World} {s s₁ : Shared} {mb mg mg' : Str → Option Value} {c Pl : Addr} (G : TopGone w s s₁ mb mg mg' c Pl) : W.isTheDefsW P0 s₁.heap "law" := by
  obtain ⟨l, hm, _⟩ := G.ti.main
  obtain ⟨a, c', pm, e1, e2, e3, _, _⟩ := (G.ti.item 36 (by decide) rfl).fn (by decide)
  exact ⟨a, _, _, _, _, _, (Claim2Try.globalOf_of_ns hm.g _).trans e1, e2, rfl, rfl, rfl, rfl, rfl, rfl, rfl, rfl, rfl, rfl, ⟨.inl ⟨rfl, rfl⟩, [], rfl, .inl ⟨rfl, rfl⟩⟩⟩
end Mine

namespace Mine
open PySem PySem.Calls PyProof.Rows

abbrev R0 : W.RowW := PySem.Challenge.rw_zd0010_01.row.toRowW
theorem has_ints {R : W.WRecords} : ∀ {xs : List W.WData}, W.WShape.hasItems R xs .int = true → ∃ ns : List Int, xs = ns.map .int
  | [], _ => ⟨[], rfl⟩
  | x :: xs, h => by
    change (W.WShape.has R x .int && W.WShape.hasItems R xs .int) = true at h
    rw [Bool.and_eq_true] at h
    obtain ⟨i, rfl⟩ := W.hasW_int h.1
    obtain ⟨ns, rfl⟩ := has_ints h.2
    exact ⟨i :: ns, rfl⟩
theorem args_of {args : List W.WData} (h : W.WShape.hasAll R0.records args R0.args = true) : ∃ ns : List Int, args = [.list (ns.map .int)] := by
  obtain ⟨d, r, rfl, h1, h2⟩ := W.hasAllW_cons (show W.WShape.hasAll R0.records args [.list .int] = true from h)
  obtain rfl := W.hasAllW_nil h2
  obtain ⟨xs, rfl, h3⟩ := W.hasW_list h1
  obtain ⟨ns, rfl⟩ := has_ints h3
  exact ⟨ns, rfl⟩
theorem pre_len {ns : List Int} (h : R0.pre.holds R0.records { args := [.list (ns.map .int)] } = true) : ns.length ≤ 63 := by
  have key : ∀ b : Bool, (match (match (some (W.WData.bool (!b)) : Option W.WData) with
      | some (.bool false) => some (W.WData.bool false)
      | some (.bool true) => some (W.WData.bool true)
      | _ => none) with
    | some (.bool true) => true
    | _ => false) = true → b = false := by intro b; cases b <;> decide
  have hb : decide ((63 : Int) < ((ns.map W.WData.int).length : Int)) = false := key _ h
  rw [List.length_map, decide_eq_false_iff_not] at hb
  omega
theorem lay_ints {R : W.WRecords} {cl : Str → Option Addr} {P : Params} {ord : List DictEntry → List DictEntry} : ∀ (ns : List Int) (s : Shared), ∃ vs tk, W.layAllW R cl P ord (ns.map .int) s = some (vs, { s with toks := tk }) ∧ IntsAre vs ns
  | [], s => ⟨[], s.toks, rfl, .nil⟩
  | n :: ns, s => by
    obtain ⟨vs, tk, h, hi⟩ := lay_ints (R := R) (cl := cl) (P := P) (ord := ord) ns { s with toks := s.toks + 1 }
    refine ⟨.int n s.toks :: vs, tk, ?_, .cons _ _ hi⟩
    change (match W.layAllW R cl P ord (ns.map .int) { s with toks := s.toks + 1 } with
      | some r => some (Value.int n s.toks :: r.1, r.2)
      | none => none) = _
    rw [h]
theorem ints_repsA {S : ASet} {h : Heap} : ∀ {vs : List Value} {ns : List Int}, IntsAre vs ns → Reps S h vs (ns.map .int)
  | _, _, .nil => .nil
  | _, _, .cons n t r => .cons (.int n t) (ints_repsA r)
theorem law_room : Room 11 callerA := ⟨rfl, by decide +kernel, by decide +kernel⟩
theorem law_call {w : World} {s s₁ s₂ : Shared} {mb mg mg' : Str → Option Value} {c Pl : Addr} (G : TopGone w s s₁ mb mg mg' c Pl) (kp : Kept s₁.heap s₂.heap) (hg2 : s₂.gens = #[]) {ns : List Int} (hl : ns.length ≤ 63) {v : Value} (hv : Rep (fun _ => False) s₂.heap v (.list (ns.map .int))) :
    ∃ f, mg' "law" = some f ∧ wpAny (model P0 w) callerA (call f [v]) (fun r s' => r = .bool true ∧ Kept s₂.heap s'.heap ∧ s'.os = s₂.os ∧ AllBare s'.gens) (fun e s' => False) s₂ := by
  obtain ⟨T, hT1, hT2, ⟨W'⟩⟩ := tops_of G
  obtain ⟨a, h1, h2, h3⟩ := c_law (prog := P0) (w := w) (n := 10) W' (Nat.le_refl _) fun l => plain_law (numsOf_len l)
  have hmg : mg' "law" = some (.ref a) := by
    rcases h1 with h1 | ⟨h1, _⟩
    · rw [← hT1]; exact h1
    · obtain ⟨a', _, _, e1, _⟩ := (G.ti.item 36 (by decide) rfl).fn (by decide)
      rw [hT1] at h1
      rw [show nameAt 36 = ("law" : Str) from rfl, h1] at e1
      cases e1
  refine ⟨.ref a, hmg, h3.run callerA (fun _ => False) s₂ [v] [.list (ns.map .int)] (.bool true) _ _ law_room kp (fun _ h => h.elim) ⟨ns, hl, rfl, rfl⟩ (.cons hv .nil) fun r s' g rr => ?_⟩
  exact ⟨rr.boolOf, g.k0, g.os, g.bare (by rw [hg2]; exact .empty)⟩
end Mine

namespace Mine
open PySem PySem.Calls PyProof.Rows

theorem r0_found : R0.promised := W.RowW.promised_of_found (by decide +kernel)
theorem r0_frees : (W.frees R0 && R0.within.isEmpty) = true := by decide +kernel
theorem p0_bare : P0.bare := ⟨rfl, rfl, rfl, rfl, rfl, by decide +kernel⟩
theorem p0_opens : W.opensWell P0 = true := by decide +kernel
theorem p0_fence (s : Shared) : fenceModules? P0 s = some s := rfl
theorem post_true (ns : List Int) : R0.claim.post [W.WData.list (ns.map .int)] (.bool true) [W.WData.list (ns.map .int)] = true := by kernel_rfl
theorem open_holds : R0.claim.HoldsOpenBy (callStub "law") ["law"] PySem.Challenge.rw_zd0010_01.row.keeps false := by
  obtain ⟨k5, k6⟩ := Bool.and_eq_true_iff.mp r0_frees
  obtain ⟨hsame, hu, ha, hap, hm⟩ := W.frees_parts k5
  refine ⟨⟨p0_bare, p0_opens, rfl⟩, r0_found.witness, fun w => ⟨(boot_ends w).1, fun s hs => ?_⟩⟩
  obtain ⟨mb, mg, c0, Pl0, hB, hg⟩ := (boot_ends w).2 s hs
  have hz : s.asleep := AfterImport.life hs
  obtain ⟨s₁, mg', c, Pl, G⟩ := top_gone w hz hB hg
  refine ⟨s, p0_fence s, hg, s₁, G.ran, fun n hn => ?_, (fun x hx => absurd (show x ∈ ([] : W.WRecords) from hx) List.not_mem_nil), (fun x hx => absurd (show x ∈ ([] : W.WRecords) from hx) List.not_mem_nil), ?_⟩
  · obtain rfl : n = "law" := by simpa using hn
    exact law_def G
  refine W.ClaimW.callFrom_of_specG (c := R0.claim) (tree := fun vs => do
      match ← nsGet mainNs "law" with
      | some f => do ret (← call f vs)
      | none => unsupported "claim.caller:no-such-global") G.asleep G.gens fun args hpre hlay ord hord => ?_
  obtain ⟨p1, p2⟩ := W.pre_splitW hpre
  obtain ⟨ns, rfl⟩ := args_of p1
  have hl := pre_len p2
  obtain ⟨us, tk, hlaid, hi⟩ := lay_ints (R := R0.records) (cl := classAt s₁.heap) (P := w.params) (ord := ord) ns s₁
  let s₂ : Shared := { s₁ with heap := s₁.heap.push { cls := .type "list", data := .seq us.toArray }, toks := tk }
  have hlaid2 : W.layAllW R0.records (classAt s₁.heap) w.params ord [.list (ns.map .int)] s₁ = some ([.ref s₁.heap.objs.size], s₂) := by
    simp only [W.layAllW, W.layW, hlaid]
    rfl
  have keeps := W.layAllW_keeps _ _ _ hlaid2
  have hal := W.layAllW_rest _ _ _ hlaid2
  obtain ⟨as, hrd, hin, hold⟩ := W.reads_layAllW hord _ _ _ hlaid2 hlay s₂.heap (fun _ _ e => e)
  have L : W.Laid R0.records w s₁ s₂ [.list (ns.map .int)] [.ref s₁.heap.objs.size] as := ⟨⟨ord, hord, hlaid2⟩, hrd, hin, hold, keeps, hal.1.trans G.gens, hal.2.2.1⟩
  have hv : Rep (fun _ => False) s₂.heap (.ref s₁.heap.objs.size) (.list (ns.map .int)) := .listIs (n := 0) (fun q => q) (Heap.get?_push_size _ rfl) (ints_repsA hi)
  obtain ⟨f, hf, hcall⟩ := law_call G keeps (hal.1.trans G.gens) hl hv
  obtain ⟨l, hmain, _⟩ := G.ti.main
  refine ⟨_, s₂, hlaid2, ?_⟩
  refine wpAny_bind (wpAny_nsGet (hmain.g.keeps keeps) ?_)
  rw [hf]
  refine wpAny_bind (wpAny_mono hcall (fun r s' ⟨hr, hk, ho, hb⟩ => wpAny_pure ?_) fun _ _ x => x.elim)
  subst hr
  have g : W.GoodWG R0.claim (classAt s₁.heap) (ExcName.means s₁.heap) [.list (ns.map .int)] s₂ (.ok (.ret (.bool true))) s' :=
    ⟨.inl ⟨_, _, [], rfl, (fun _ => rfl), .bool true, post_true ns, fun _ => ⟨List.nodup_nil, fun _ hm => nomatch hm⟩⟩, .of_keep hk, ho, hb⟩
  have z := g.laid (c := R0.claim) hsame (List.isEmpty_iff.mp k6) (W.ident_freeW hu ha hap) L
  exact ⟨_, rfl, z.1, z.2.1, z.2.2, fun q => nomatch q⟩
open PySem.W in
theorem law_holds : PySem.Challenge.rw_zd0010_01.Holds := by
  o_law
  exact ⟨by assumption, r0_found, open_holds⟩
end Mine

/-- the law holds -/
theorem PySem.Challenge.cw_zd0010_01_holds : PySem.Challenge.rw_zd0010_01.Holds := by
  exact Mine.law_holds
