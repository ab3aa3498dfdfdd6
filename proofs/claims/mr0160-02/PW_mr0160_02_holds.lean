import PyProof.Rows.All
import Wide.All
import OpenK.AllK
import Wide.FinOn
import Lean
import PySem.Challenge.RW_mr0160_02
set_option maxRecDepth 100000
set_option Elab.async false
set_option linter.all false
set_option compiler.extract_closed false
set_option genSizeOfSpec false
set_option genInjectivity true
section
open PySem PySem.Spec PySem.Calls PyProof.Rows PySem.P
namespace Mine

/-- values, without their tokens; tuples written out -/
inductive V where
  | none
  | bool (b : Bool)
  | int (i : Int)
  | str (s : Str)
  | tup (vs : List V)
  | ref (a : Addr)
  | ty (n : String)
  | bi (id : String)

mutual
noncomputable def Rel (h : Heap) : V → Value → Prop
  | .none, x => x = .none
  | .bool b, x => x = .bool b
  | .int i, x => ∃ t, x = .int i t
  | .str s, x => ∃ t, x = .str s t
  | .ref a, x => x = .ref a
  | .ty n, x => x = .type n
  | .bi i, x => x = .builtin i
  | .tup vs, x => ∃ a items n, x = .ref a ∧ IsT h a items n ∧ RelL h vs items.toList
noncomputable def RelL (h : Heap) : List V → List Value → Prop
  | [], xs => xs = []
  | v :: vs, xs => ∃ x ys, xs = x :: ys ∧ Rel h v x ∧ RelL h vs ys
end

noncomputable def TupKeep (h h' : Heap) : Prop := ∀ a items n, IsT h a items n → IsT h' a items n
mutual
theorem Rel.keep {h h' : Heap} (k : TupKeep h h') : ∀ {v : V} {x : Value}, Rel h v x → Rel h' v x
  | .none, _, r => by simpa [Rel] using r
  | .bool _, _, r => by simpa [Rel] using r
  | .int _, _, r => by simpa [Rel] using r
  | .str _, _, r => by simpa [Rel] using r
  | .ref _, _, r => by simpa [Rel] using r
  | .ty _, _, r => by simpa [Rel] using r
  | .bi _, _, r => by simpa [Rel] using r
  | .tup vs, _, r => by
    simp only [Rel] at r ⊢
    obtain ⟨a, items, n, e, t, l⟩ := r
    exact ⟨a, items, n, e, k _ _ _ t, RelL.keep k l⟩
theorem RelL.keep {h h' : Heap} (k : TupKeep h h') : ∀ {vs : List V} {xs : List Value}, RelL h vs xs → RelL h' vs xs
  | [], _, r => by simpa [RelL] using r
  | v :: vs, _, r => by
    simp only [RelL] at r ⊢
    obtain ⟨x, ys, e, a, b⟩ := r
    exact ⟨x, ys, e, Rel.keep k a, RelL.keep k b⟩
end

/-- what is tracked -/
inductive Cell where
  | loc (env : Env) (ℓ : List (Str × V))
  | list (vs : List V)
  | lit (l : Addr) (i : Nat)
  | rit (x left step : Int)
  | tit (vs : List V)
  | enl (it l : Addr) (i : Nat)
  | tab
  | tab1 (c : Addr) (pos : Pos) (q : Str)
  | rng (a b c : Int)
  | sit (x : Str) (i : Nat)
  | ens (it : Addr) (x : Str) (i : Nat)
  | cit (m fn self : Addr) (dead : Bool)
  | inst (C d : Addr) (at' : List (Str × V))
  | clo (fd : FuncData) (c : Addr) (v : V)
  | fn (fd : FuncData)
  | meth (f self : Addr)

structure TI where
  prog : Program
  w : World
  h₁ : Heap
  os : OsState
  tb : Addr
  tc : Addr

noncomputable abbrev Cs := List (Addr × Cell)

noncomputable def ownCells (env : Env) : List Addr := if env.func.isSome && env.scope.names.any (fun p => p.2 == .cell) then env.cells.map (·.2) else []
noncomputable def foot (a : Addr) : Cell → List Addr
  | .loc env _ => a :: ownCells env
  | .list _ => [a]
  | .lit _ _ => [a]
  | .rit _ _ _ => [a]
  | .tit _ => [a]
  | .enl it _ _ => [a, it]
  | .tab => [a]
  | .tab1 c _ _ => [a, c]
  | .rng _ _ _ => [a]
  | .sit _ _ => [a]
  | .ens it _ _ => [a, it]
  | .cit m _ _ _ => [a, m]
  | .inst _ d _ => [a, d]
  | .clo _ c _ => [a, c]
  | .fn _ => [a]
  | .meth _ _ => [a]

noncomputable def foots (C : Cs) : List Addr := C.flatMap fun p => foot p.1 p.2

noncomputable def VarAt (h : Heap) (env : Env) (m : Str → Option Value) (x : Str) (v : V) : Prop :=
  (env.kindOf x = some .local ∧ ∃ y, m x = some y ∧ Rel h v y) ∨
  (env.kindOf x = some .cell ∧ ∃ c y, env.cells.lookup x = some c ∧ c ∈ ownCells env ∧ h.IsCell c (some y) ∧ Rel h v y)

noncomputable abbrev citObj (m : Addr) (t : Tok) (dead : Bool) : Obj := if dead then { cls := .type "callable_iterator", data := .fields #[.none, .none, .bool true] } else { cls := .type "callable_iterator", data := .fields #[.ref m, .str Str.empty t, .bool false] }
noncomputable abbrev methObj (fn self : Addr) : Obj := { cls := .type "method", data := .fields #[.ref fn, .ref self] }
noncomputable def AttrsAre (h : Heap) (at' : List (Str × V)) (mA : Str → Option Value) : Prop := ∀ x, match at'.lookup x with
  | some v => ∃ y, mA x = some y ∧ Rel h v y
  | .none => mA x = .none
theorem AttrsAre.keep {h h' : Heap} {at' : List (Str × V)} {mA : Str → Option Value} (z : AttrsAre h at' mA) (k : TupKeep h h') : AttrsAre h' at' mA := fun x => by
  have q := z x
  cases e : at'.lookup x with
  | none => rw [e] at q; exact q
  | some v => rw [e] at q; obtain ⟨y, hy, r⟩ := q; exact ⟨y, hy, r.keep k⟩
noncomputable def InstIs (h : Heap) (a C d : Addr) (at' : List (Str × V)) : Prop :=
  ∃ o mA, h.get? a = some o ∧ o.cls = .ref C ∧ (∀ c, o.data ≠ .cls c) ∧ o.dict = some d ∧ d ≠ a ∧ h.Ns1 d mA ∧ AttrsAre h at' mA
noncomputable def CellAt (T : TI) (h : Heap) (a : Addr) : Cell → Prop
  | .loc env ℓ => env.locals = a ∧ (∃ m, h.Ns a m ∧ ∀ x v, ℓ.lookup x = some v → VarAt h env m x v) ∧ ∀ c ∈ ownCells env, ∃ y, h.IsCell c y
  | .list vs => ∃ items n, IsL h a items n ∧ RelL h vs items.toList
  | .lit l i => h.IsListIter a l i
  | .rit x left step => IsRangeIter h a x left step
  | .tit vs => ∃ t items n i, h.IsTupleIter a t i ∧ IsT h t items n ∧ RelL h vs (items.toList.drop i)
  | .enl it l i => (∃ old, IsEnum h a it i old) ∧ h.IsListIter it l i
  | .tab => T.h₁.TableAt T.tc a #[] ∧ h.get? a = some (PySem.W.X.tableObj #[])
  | .tab1 c pos q => T.h₁.TableAt T.tc a #[] ∧ h.get? a = some (PySem.W.X.tableObj #[rawInt pos.line, rawInt pos.col, .ref c]) ∧ ∃ o vs t, h.get? c = some o ∧ o.data = .fields vs ∧ vs[1]? = some (.str q t)
  | .rng x y z => ∃ t u v, IsRange h a x y z t u v
  | .sit x i => ∃ t, h.IsStrIter a "str_ascii_iterator" x t i
  | .ens it x i => (∃ old, IsEnum h a it i old) ∧ ∃ t, h.IsStrIter it "str_ascii_iterator" x t i
  | .cit m fn self dead => (∃ t, h.get? a = some (citObj m t dead)) ∧ h.get? m = some (methObj fn self)
  | .inst C d at' => InstIs h a C d at'
  | .clo fd c v => (∃ o, h.get? a = some o ∧ o.cls = .type "function" ∧ o.data = .func fd) ∧ ∃ y, h.IsCell c (some y) ∧ Rel h v y
  | .fn fd => ∃ o, h.get? a = some o ∧ o.cls = .type "function" ∧ o.data = .func fd
  | .meth f self => h.get? a = some (methObj f self)

theorem IsListIter.keep' {h h' : Heap} {a l : Addr} {i : Nat} (x : h.IsListIter a l i) (k : ∀ o, h.get? a = some o → h'.get? a = some o) : h'.IsListIter a l i :=
  let ⟨o, ho, r⟩ := x; ⟨o, k o ho, r⟩
theorem IsCell.keep' {h h' : Heap} {a : Addr} {v} (x : h.IsCell a v) (k : ∀ o, h.get? a = some o → h'.get? a = some o) : h'.IsCell a v :=
  let ⟨o, ho, r⟩ := x; ⟨o, k o ho, r⟩
theorem IsTupleIter.keep' {h h' : Heap} {a t : Addr} {i} (x : h.IsTupleIter a t i) (k : ∀ o, h.get? a = some o → h'.get? a = some o) : h'.IsTupleIter a t i :=
  let ⟨o, ho, r⟩ := x; ⟨o, k o ho, r⟩
theorem Ns.keep' {h h' : Heap} {a : Addr} {m} (x : h.Ns a m) (k : ∀ o, h.get? a = some o → h'.get? a = some o) : h'.Ns a m :=
  let ⟨o, es, ep, ho, r⟩ := x; ⟨o, es, ep, k o ho, r⟩
theorem IsRangeIter.keep' {h h' : Heap} {a : Addr} {x l st : Int} (z : IsRangeIter h a x l st) (k : ∀ o, h.get? a = some o → h'.get? a = some o) : IsRangeIter h' a x l st := by
  unfold IsRangeIter at z ⊢
  first
    | exact k _ z
    | (obtain ⟨o, ho, r⟩ := z; exact ⟨o, k o ho, r⟩)

theorem CellAt.there {T : TI} {h : Heap} {a : Addr} {c : Cell} (x : CellAt T h a c) : ∀ b ∈ foot a c, ∃ o, h.get? b = some o := by
  intro b hb
  cases c with
  | loc env ℓ =>
    obtain ⟨_, ⟨m, hn, _⟩, hc⟩ := x
    rcases List.mem_cons.mp hb with rfl | hb
    · obtain ⟨o, _, _, ho, _⟩ := hn; exact ⟨o, ho⟩
    · obtain ⟨y, o, ho, _⟩ := hc b hb; exact ⟨o, ho⟩
  | list vs =>
    obtain ⟨it, n, ho, _⟩ := x
    cases List.mem_singleton.mp hb; exact ⟨_, ho⟩
  | lit l i =>
    obtain ⟨o, ho, _⟩ := x
    cases List.mem_singleton.mp hb; exact ⟨o, ho⟩
  | rit x' l st =>
    cases List.mem_singleton.mp hb
    unfold CellAt IsRangeIter at x
    first
      | exact ⟨_, x⟩
      | (obtain ⟨o, ho, _⟩ := x; exact ⟨o, ho⟩)
  | tit vs =>
    obtain ⟨t, it, n, i, ⟨o, ho, _⟩, _⟩ := x
    cases List.mem_singleton.mp hb; exact ⟨o, ho⟩
  | enl it l i =>
    obtain ⟨⟨old, he⟩, ⟨o, ho, _⟩⟩ := x
    simp only [foot, List.mem_cons, List.not_mem_nil, or_false] at hb
    rcases hb with rfl | rfl
    · exact ⟨_, he⟩
    · exact ⟨o, ho⟩
  | tab =>
    obtain ⟨_, ho⟩ := x
    cases List.mem_singleton.mp hb; exact ⟨_, ho⟩
  | tab1 c pos q =>
    obtain ⟨_, ho, o, vs, t, hc, _⟩ := x
    simp only [foot, List.mem_cons, List.not_mem_nil, or_false] at hb
    rcases hb with rfl | rfl
    · exact ⟨_, ho⟩
    · exact ⟨_, hc⟩
  | rng p q r =>
    obtain ⟨t, u, v, ho⟩ := x
    cases List.mem_singleton.mp hb; exact ⟨_, ho⟩
  | sit y i =>
    obtain ⟨t, o, ho, _⟩ := x
    cases List.mem_singleton.mp hb; exact ⟨_, ho⟩
  | ens it y i =>
    obtain ⟨⟨old, he⟩, t, o, ho, _⟩ := x
    simp only [foot, List.mem_cons, List.not_mem_nil, or_false] at hb
    rcases hb with rfl | rfl
    · exact ⟨_, he⟩
    · exact ⟨o, ho⟩
  | cit m fn self dead =>
    obtain ⟨⟨t, he⟩, ho⟩ := x
    simp only [foot, List.mem_cons, List.not_mem_nil, or_false] at hb
    rcases hb with rfl | rfl
    · exact ⟨_, he⟩
    · exact ⟨_, ho⟩
  | inst C d at' =>
    obtain ⟨o, mA, ho, _, _, _, _, ⟨od, _, _, hod, _⟩, _⟩ := x
    simp only [foot, List.mem_cons, List.not_mem_nil, or_false] at hb
    rcases hb with rfl | rfl
    · exact ⟨_, ho⟩
    · exact ⟨_, hod⟩
  | clo fd c v =>
    obtain ⟨⟨o, ho, _⟩, y, ⟨oc, hoc, _⟩, _⟩ := x
    simp only [foot, List.mem_cons, List.not_mem_nil, or_false] at hb
    rcases hb with rfl | rfl
    · exact ⟨_, ho⟩
    · exact ⟨_, hoc⟩
  | fn fd =>
    obtain ⟨o, ho, _⟩ := x
    cases List.mem_singleton.mp hb; exact ⟨_, ho⟩
  | meth f self => cases List.mem_singleton.mp hb; exact ⟨_, x⟩

theorem VarAt.keep {h h' : Heap} {env : Env} {m} {x : Str} {v : V} (z : VarAt h env m x v) (k : TupKeep h h') (kc : ∀ c ∈ ownCells env, ∀ o, h.get? c = some o → h'.get? c = some o) : VarAt h' env m x v := by
  rcases z with ⟨hk, y, hy, r⟩ | ⟨hk, c, y, hc, ho, hi, r⟩
  · exact .inl ⟨hk, y, hy, r.keep k⟩
  · exact .inr ⟨hk, c, y, hc, ho, IsCell.keep' hi (kc c ho), r.keep k⟩

theorem CellAt.keep {T : TI} {h h' : Heap} {a : Addr} {c : Cell} (x : CellAt T h a c) (k : TupKeep h h') (kf : ∀ b ∈ foot a c, ∀ o, h.get? b = some o → h'.get? b = some o) : CellAt T h' a c := by
  cases c with
  | loc env ℓ =>
    obtain ⟨e, ⟨m, hn, hv⟩, hc⟩ := x
    refine ⟨e, ⟨m, Ns.keep' hn (kf a (.head _)), fun y v hy => (hv y v hy).keep k fun c hc => kf c (.tail _ hc)⟩, fun c hc' => ?_⟩
    obtain ⟨y, hy⟩ := hc c hc'
    exact ⟨y, IsCell.keep' hy (kf c (.tail _ hc'))⟩
  | list vs =>
    obtain ⟨it, n, hl, r⟩ := x
    exact ⟨it, n, kf a (.head _) _ hl, r.keep k⟩
  | lit l i => exact IsListIter.keep' x (kf a (.head _))
  | rit x' l st => exact IsRangeIter.keep' x (kf a (.head _))
  | tit vs =>
    obtain ⟨t, it, n, i, hi, ht, r⟩ := x
    exact ⟨t, it, n, i, IsTupleIter.keep' hi (kf a (.head _)), k _ _ _ ht, r.keep k⟩
  | enl it l i =>
    obtain ⟨⟨old, he⟩, hi⟩ := x
    exact ⟨⟨old, kf a (.head _) _ he⟩, IsListIter.keep' hi (kf it (.tail _ (.head _)))⟩
  | tab =>
    obtain ⟨ht, ho⟩ := x
    exact ⟨ht, kf a (.head _) _ ho⟩
  | tab1 c pos q =>
    obtain ⟨ht, ho, o, vs, t, hc, r⟩ := x
    exact ⟨ht, kf a (.head _) _ ho, o, vs, t, kf c (.tail _ (.head _)) _ hc, r⟩
  | rng p q r =>
    obtain ⟨t, u, v, ho⟩ := x
    exact ⟨t, u, v, kf a (.head _) _ ho⟩
  | sit y i =>
    obtain ⟨t, o, ho, r⟩ := x
    exact ⟨t, o, kf a (.head _) _ ho, r⟩
  | ens it y i =>
    obtain ⟨⟨old, he⟩, t, o, ho, r⟩ := x
    exact ⟨⟨old, kf a (.head _) _ he⟩, t, o, kf it (.tail _ (.head _)) _ ho, r⟩
  | cit m fn self dead =>
    obtain ⟨⟨t, he⟩, ho⟩ := x
    exact ⟨⟨t, kf a (.head _) _ he⟩, kf m (.tail _ (.head _)) _ ho⟩
  | inst C d at' =>
    obtain ⟨o, mA, ho, hc, hn, hd, hne, hns, ha⟩ := x
    exact ⟨o, mA, kf a (.head _) _ ho, hc, hn, hd, hne, hns.at fun o e => kf d (.tail _ (.head _)) o e, ha.keep k⟩
  | clo fd c v =>
    obtain ⟨⟨o, ho, r⟩, y, hc, rv⟩ := x
    exact ⟨⟨o, kf a (.head _) _ ho, r⟩, y, IsCell.keep' hc (kf c (.tail _ (.head _))), rv.keep k⟩
  | fn fd =>
    obtain ⟨o, ho, r⟩ := x
    exact ⟨o, kf a (.head _) _ ho, r⟩
  | meth f self => exact kf a (.head _) _ x

theorem CellAt.ntup {T : TI} {h : Heap} {a : Addr} {c : Cell} (x : CellAt T h a c) : ∀ b ∈ foot a c, ∀ items n, ¬ IsT h b items n := by
  rintro b hb items n ho'
  unfold IsT at ho'
  cases c with
  | loc env ℓ =>
    obtain ⟨_, ⟨m, hn, _⟩, hc⟩ := x
    rcases List.mem_cons.mp hb with rfl | hb
    · obtain ⟨o, _, _, ho, hd, _⟩ := hn
      rw [ho] at ho'; cases ho'; cases hd
    · obtain ⟨y, o, ho, hd⟩ := hc b hb
      rw [ho] at ho'; cases ho'; cases hd
  | list vs =>
    obtain ⟨it, n, ho, _⟩ := x
    cases List.mem_singleton.mp hb
    have e : some _ = some _ := ho.symm.trans ho'
    have e' : (Value.type "list") = Value.type "tuple" := congrArg Obj.cls (Option.some.inj e)
    exact absurd e' (by decide)
  | lit l i =>
    obtain ⟨o, ho, _, hd⟩ := x
    cases List.mem_singleton.mp hb
    rw [ho] at ho'; cases ho'; cases hd
  | rit x' l st =>
    cases List.mem_singleton.mp hb
    have e : some _ = some _ := Eq.trans (Eq.symm (show IsRangeIter h a x' l st from x)) ho'
    have e' := congrArg Obj.data (Option.some.inj e)
    cases e'
  | tit vs =>
    obtain ⟨t, it, n, i, ⟨o, ho, _, hd⟩, _⟩ := x
    cases List.mem_singleton.mp hb
    rw [ho] at ho'; cases ho'; cases hd
  | enl it l i =>
    obtain ⟨⟨old, he⟩, ⟨o, ho, _, hd⟩⟩ := x
    simp only [foot, List.mem_cons, List.not_mem_nil, or_false] at hb
    rcases hb with rfl | rfl
    · have e : some _ = some _ := he.symm.trans ho'
      have e' := congrArg Obj.data (Option.some.inj e)
      cases e'
    · rw [ho] at ho'; cases ho'; cases hd
  | tab =>
    obtain ⟨_, ho⟩ := x
    cases List.mem_singleton.mp hb
    have e : some _ = some _ := ho.symm.trans ho'
    have e' := congrArg Obj.data (Option.some.inj e)
    cases e'
  | tab1 c pos q =>
    obtain ⟨_, ho, o, vs, t, hc, hd, _⟩ := x
    simp only [foot, List.mem_cons, List.not_mem_nil, or_false] at hb
    rcases hb with rfl | rfl
    · have e : some _ = some _ := ho.symm.trans ho'
      have e' := congrArg Obj.data (Option.some.inj e)
      cases e'
    · rw [hc] at ho'; cases ho'; cases hd
  | rng p q r =>
    obtain ⟨t, u, v, ho⟩ := x
    cases List.mem_singleton.mp hb
    have e : some _ = some _ := ho.symm.trans ho'
    have e' := congrArg Obj.data (Option.some.inj e)
    cases e'
  | sit y i =>
    obtain ⟨t, o, ho, _, hd⟩ := x
    cases List.mem_singleton.mp hb
    rw [ho] at ho'; cases ho'; cases hd
  | ens it y i =>
    obtain ⟨⟨old, he⟩, t, o, ho, _, hd⟩ := x
    simp only [foot, List.mem_cons, List.not_mem_nil, or_false] at hb
    rcases hb with rfl | rfl
    · have e : some _ = some _ := he.symm.trans ho'
      have e' := congrArg Obj.data (Option.some.inj e)
      cases e'
    · rw [ho] at ho'; cases ho'; cases hd
  | cit m fn self dead =>
    obtain ⟨⟨t, he⟩, ho⟩ := x
    simp only [foot, List.mem_cons, List.not_mem_nil, or_false] at hb
    rcases hb with rfl | rfl
    · have e : some _ = some _ := he.symm.trans ho'
      have e' := congrArg Obj.data (Option.some.inj e)
      cases dead <;> cases e'
    · have e : some _ = some _ := ho.symm.trans ho'
      have e' := congrArg Obj.data (Option.some.inj e)
      cases e'
  | inst C d at' =>
    obtain ⟨o, mA, ho, hc, _, _, _, ⟨od, _, _, hod, hdd, _⟩, _⟩ := x
    simp only [foot, List.mem_cons, List.not_mem_nil, or_false] at hb
    rcases hb with rfl | rfl
    · rw [ho] at ho'; cases ho'; cases hc
    · rw [hod] at ho'; cases ho'; cases hdd
  | clo fd c v =>
    obtain ⟨⟨o, ho, hc, hd⟩, y, ⟨oc, hoc, hdc⟩, _⟩ := x
    simp only [foot, List.mem_cons, List.not_mem_nil, or_false] at hb
    rcases hb with rfl | rfl
    · rw [ho] at ho'; cases ho'; cases hd
    · rw [hoc] at ho'; cases ho'; cases hdc
  | fn fd =>
    obtain ⟨o, ho, _, hd⟩ := x
    cases List.mem_singleton.mp hb
    rw [ho] at ho'; cases ho'; cases hd
  | meth f self =>
    cases List.mem_singleton.mp hb
    have e : some _ = some _ := Eq.trans (Eq.symm (show h.get? a = some (methObj f self) from x)) ho'
    have e' := congrArg Obj.data (Option.some.inj e)
    cases e'

/-- the state as the walk knows it -/
structure Ok (T : TI) (C : Cs) (s : Shared) : Prop where
  top : ∀ b o, T.h₁.get? b = some o → b ≠ T.tb → s.heap.get? b = some o
  cells : ∀ p ∈ C, CellAt T s.heap p.1 p.2
  nd : (foots C).Nodup
  new : ∀ b ∈ foots C, T.h₁.get? b = none ∨ b = T.tb
  gens : s.gens = #[]
  os : s.os = T.os

/-- what a step may have changed -/
structure Go (C : Cs) (h : Heap) (C' : Cs) (h' : Heap) : Prop where
  keep : ∀ b o, h.get? b = some o → b ∉ foots C → h'.get? b = some o
  foot : ∀ b ∈ foots C', b ∈ foots C ∨ h.get? b = none

theorem Go.refl (C : Cs) (h : Heap) : Go C h C h := ⟨fun _ _ e _ => e, fun _ hb => .inl hb⟩
theorem Go.trans {C C₁ C₂ : Cs} {h h₁ h₂ : Heap} (x : Go C h C₁ h₁) (y : Go C₁ h₁ C₂ h₂) : Go C h C₂ h₂ := by
  refine ⟨fun b o e hb => y.keep b o (x.keep b o e hb) fun hb' => ?_, fun b hb => ?_⟩
  · rcases x.foot b hb' with z | z
    · exact hb z
    · rw [e] at z; cases z
  · rcases y.foot b hb with z | z
    · exact x.foot b z
    · by_cases hb' : b ∈ foots C
      · exact .inl hb'
      · cases e : h.get? b with
        | none => exact .inr rfl
        | some o => rw [x.keep b o e hb'] at z; cases z
theorem Ok.there {T : TI} {C : Cs} {s : Shared} (k : Ok T C s) : ∀ b ∈ foots C, ∃ o, s.heap.get? b = some o := fun b hb => by
  obtain ⟨p, hp, hb⟩ := List.mem_flatMap.mp hb
  exact (k.cells p hp).there b hb
theorem Ok.ntup {T : TI} {C : Cs} {s : Shared} (k : Ok T C s) : ∀ b ∈ foots C, ∀ items n, ¬ IsT s.heap b items n := fun b hb => by
  obtain ⟨p, hp, hb⟩ := List.mem_flatMap.mp hb
  exact (k.cells p hp).ntup b hb
theorem Go.tup {T : TI} {C C' : Cs} {s : Shared} {h' : Heap} (k : Ok T C s) (g : Go C s.heap C' h') : TupKeep s.heap h' := fun a items n t => g.keep a _ t fun hb => k.ntup a hb items n t

theorem foots_append (C R : Cs) : foots (C ++ R) = foots C ++ foots R := List.flatMap_append
theorem foots_cons (p : Addr × Cell) (C : Cs) : foots (p :: C) = foot p.1 p.2 ++ foots C := rfl
theorem foots_perm {C C' : Cs} (p : C.Perm C') : (foots C).Perm (foots C') := p.flatMap_right _
theorem Ok.perm {T : TI} {C C' : Cs} {s : Shared} (k : Ok T C s) (p : C.Perm C') : Ok T C' s :=
  ⟨k.top, fun q hq => k.cells q (p.symm.subset hq), (foots_perm p).nodup k.nd, fun b hb => k.new b ((foots_perm p).symm.subset hb), k.gens, k.os⟩
theorem Go.permL {C C₀ C' : Cs} {h h' : Heap} (g : Go C h C' h') (p : C.Perm C₀) : Go C₀ h C' h' :=
  ⟨fun b o e hb => g.keep b o e fun z => hb ((foots_perm p).subset z), fun b hb => (g.foot b hb).imp (fun z => (foots_perm p).subset z) id⟩
theorem Go.permR {C C₀ C' : Cs} {h h' : Heap} (g : Go C h C' h') (p : C'.Perm C₀) : Go C h C₀ h' :=
  ⟨g.keep, fun b hb => g.foot b ((foots_perm p).symm.subset hb)⟩
theorem Ok.left {T : TI} {C R : Cs} {s : Shared} (k : Ok T (C ++ R) s) : Ok T C s :=
  ⟨k.top, fun q hq => k.cells q (List.mem_append_left _ hq), by have := k.nd; rw [foots_append] at this; exact (List.nodup_append.mp this).1,
    fun b hb => k.new b (by rw [foots_append]; exact List.mem_append_left _ hb), k.gens, k.os⟩
theorem Ok.right {T : TI} {C R : Cs} {s : Shared} (k : Ok T (C ++ R) s) : Ok T R s := (k.perm List.perm_append_comm).left
/-- the frame rule: what is not touched stays -/
theorem Ok.frame {T : TI} {C C' R : Cs} {s s' : Shared} (k : Ok T (C ++ R) s) (k' : Ok T C' s') (g : Go C s.heap C' s'.heap) : Ok T (C' ++ R) s' ∧ Go (C ++ R) s.heap (C' ++ R) s'.heap := by
  have tk : TupKeep s.heap s'.heap := g.tup k.left
  have nd := k.nd
  rw [foots_append] at nd
  have dj := (List.nodup_append.mp nd).2.2
  have kf : ∀ b ∈ foots R, ∀ o, s.heap.get? b = some o → s'.heap.get? b = some o := fun b hb o e => g.keep b o e fun z => dj b z b hb rfl
  refine ⟨⟨k'.top, fun p hp => ?_, ?_, fun b hb => ?_, k'.gens, k'.os⟩, ⟨fun b o e hb => g.keep b o e fun z => hb (by rw [foots_append]; exact List.mem_append_left _ z), fun b hb => ?_⟩⟩
  · rcases List.mem_append.mp hp with hp | hp
    · exact k'.cells p hp
    · exact (k.right.cells p hp).keep tk fun b hb o e => kf b (List.mem_flatMap.mpr ⟨p, hp, hb⟩) o e
  · rw [foots_append]
    refine List.nodup_append.mpr ⟨k'.nd, k.right.nd, fun b hb c hc e => ?_⟩
    subst e
    obtain ⟨o, ho⟩ := k.right.there b hc
    rcases g.foot b hb with z | z
    · exact dj b z b hc rfl
    · rw [ho] at z; cases z
  · rw [foots_append] at hb
    rcases List.mem_append.mp hb with hb | hb
    · exact k'.new b hb
    · exact k.right.new b hb
  · rw [foots_append] at hb ⊢
    rcases List.mem_append.mp hb with hb | hb
    · exact (g.foot b hb).imp (List.mem_append_left _) id
    · exact .inl (List.mem_append_right _ hb)

/-- a new state out of an old one -/
theorem Ok.mk' {T : TI} {C C' : Cs} {s s' : Shared} (k : Ok T C s) (g : Go C s.heap C' s'.heap) (cells : ∀ p ∈ C', CellAt T s'.heap p.1 p.2) (nd : (foots C').Nodup) (hg : s'.gens = s.gens) (ho : s'.os = s.os) : Ok T C' s' := by
  refine ⟨fun b o e hb => g.keep b o (k.top b o e hb) fun hf => ?_, cells, nd, fun b hb => ?_, hg.trans k.gens, ho.trans k.os⟩
  · rcases k.new b hf with z | z
    · rw [e] at z; cases z
    · exact hb z
  · rcases g.foot b hb with z | z
    · exact k.new b z
    · by_cases hb' : b = T.tb
      · exact .inr hb'
      · cases e : T.h₁.get? b with
        | none => exact .inl rfl
        | some o => rw [k.top b o e hb'] at z; cases z

/-- nothing but new objects -/
structure Grow (s s' : Shared) : Prop where
  keep : ∀ b o, s.heap.get? b = some o → s'.heap.get? b = some o
  gens : s'.gens = s.gens
  os : s'.os = s.os
theorem Grow.refl (s : Shared) : Grow s s := ⟨fun _ _ e => e, rfl, rfl⟩
theorem Grow.tok (s : Shared) (t : Nat) : Grow s { s with toks := t } := ⟨fun _ _ e => e, rfl, rfl⟩
theorem Grow.push (s : Shared) (o : Obj) (t : Nat) : Grow s { s with heap := s.heap.push o, toks := t } := ⟨fun _ _ e => Heap.get?_push_of_some _ e, rfl, rfl⟩
theorem Grow.tup {s s' : Shared} (x : Grow s s') : TupKeep s.heap s'.heap := fun _ _ _ t => x.keep _ _ t
theorem Ok.grow {T : TI} {C : Cs} {s s' : Shared} (k : Ok T C s) (x : Grow s s') : Ok T C s' ∧ Go C s.heap C s'.heap := by
  have g : Go C s.heap C s'.heap := ⟨fun b o e _ => x.keep b o e, fun b hb => .inl hb⟩
  exact ⟨k.mk' g (fun p hp => (k.cells p hp).keep x.tup fun b _ o e => x.keep b o e) k.nd x.gens x.os, g⟩
/-- a new object that is tracked from now on -/
theorem Ok.add {T : TI} {C : Cs} {s s' : Shared} (k : Ok T C s) (x : Grow s s') {a : Addr} {c : Cell} (ca : CellAt T s'.heap a c) (hn : ∀ b ∈ foot a c, s.heap.get? b = none) (nd : (foot a c).Nodup) :
    Ok T ((a, c) :: C) s' ∧ Go C s.heap ((a, c) :: C) s'.heap := by
  obtain ⟨k', _⟩ := k.grow x
  have g : Go C s.heap ((a, c) :: C) s'.heap := ⟨fun b o e _ => x.keep b o e, fun b hb => by
    rw [foots_cons] at hb
    rcases List.mem_append.mp hb with hb | hb
    · exact .inr (hn b hb)
    · exact .inl hb⟩
  refine ⟨k.mk' g (fun p hp => ?_) ?_ x.gens x.os, g⟩
  · rcases List.mem_cons.mp hp with rfl | hp
    · exact ca
    · exact k'.cells p hp
  · rw [foots_cons]
    refine List.nodup_append.mpr ⟨nd, k.nd, fun b hb c hc e => ?_⟩
    subst e
    obtain ⟨o, ho⟩ := k.there b hc
    rw [hn b hb] at ho; cases ho
theorem set_perm {α : Type} : ∀ {l : List α} {i : Nat} {x y : α}, l[i]? = some x → l.Perm ([x] ++ l.eraseIdx i) ∧ ([y] ++ l.eraseIdx i).Perm (l.set i y)
  | [], _, _, _, h => by cases h
  | z :: l, 0, x, y, h => by cases h; exact ⟨.refl _, .refl _⟩
  | z :: l, i + 1, x, y, h => by
    obtain ⟨p, q⟩ := set_perm (l := l) (i := i) (x := x) (y := y) (by simpa using h)
    exact ⟨(p.cons z).trans (.swap _ _ _), (List.Perm.swap _ _ _).trans (q.cons z)⟩
/-- one tracked thing turns -/
theorem Ok.upd {T : TI} {C : Cs} {s s' : Shared} {i : Nat} {a : Addr} {c c' : Cell} (k : Ok T C s) (hi : C[i]? = some (a, c))
    (kp : ∀ b o, s.heap.get? b = some o → b ∉ foot a c → s'.heap.get? b = some o) (ca : TupKeep s.heap s'.heap → CellAt T s'.heap a c') (hf : foot a c' = foot a c) (hg : s'.gens = s.gens) (ho : s'.os = s.os) :
    Ok T (C.set i (a, c')) s' ∧ Go C s.heap (C.set i (a, c')) s'.heap := by
  obtain ⟨p, q⟩ := set_perm (y := (a, c')) hi
  have k₁ : Ok T ([(a, c)] ++ C.eraseIdx i) s := k.perm p
  have fe : foots [(a, c)] = foot a c := by simp [foots]
  have fe' : foots [(a, c')] = foot a c := by simp [foots, hf]
  have g : Go [(a, c)] s.heap [(a, c')] s'.heap := ⟨fun b o e hb => kp b o e (by rw [fe] at hb; exact hb), fun b hb => .inl (by rw [fe'] at hb; rw [fe]; exact hb)⟩
  have tk := g.tup k₁.left
  have k₂ : Ok T [(a, c')] s' := k₁.left.mk' g (fun x hx => by cases List.mem_singleton.mp hx; exact ca tk) (by rw [fe']; have := k₁.left.nd; rw [fe] at this; exact this) hg ho
  obtain ⟨k₃, g₃⟩ := k₁.frame k₂ g
  exact ⟨k₃.perm q, (g₃.permL p.symm).permR q⟩
theorem foots_sub {C' C : Cs} (hs : C'.Sublist C) : (foots C').Sublist (foots C) := by
  induction hs with
  | slnil => exact .slnil
  | cons p _ ih => exact ih.trans (List.sublist_append_right _ _)
  | cons_cons p _ ih => exact (List.Sublist.refl _).append ih
theorem Ok.drop {T : TI} {C C' : Cs} {s : Shared} (k : Ok T C s) (hs : C'.Sublist C) : Ok T C' s ∧ Go C s.heap C' s.heap := by
  have hf : (foots C').Sublist (foots C) := foots_sub hs
  exact ⟨⟨k.top, fun p hp => k.cells p (hs.subset hp), hf.nodup k.nd, fun b hb => k.new b (hf.subset hb), k.gens, k.os⟩, ⟨fun _ _ e _ => e, fun b hb => .inl (hf.subset hb)⟩⟩
theorem get?_end (h : Heap) : h.get? h.objs.size = none := by
  cases e : h.get? h.objs.size with
  | none => rfl
  | some o => exact absurd (Heap.lt_size e) (Nat.lt_irrefl _)
end Mine
end
section
open PySem PySem.Spec PySem.Calls PyProof.Rows PySem.P
namespace Mine
noncomputable abbrev Lo := List (Str × V)
noncomputable abbrev lc (env : Env) (ℓ : Lo) : Addr × Cell := (env.locals, .loc env ℓ)
noncomputable abbrev Mo (T : TI) : Model := model T.prog T.w
noncomputable def NoE : Value → Shared → Prop := fun _ _ => False

noncomputable def PostG {α β : Type} (T : TI) (C : Cs) (h : Heap) (R : Heap → β → α → Prop) (K : β → Cs → Prop) (x : α) (s' : Shared) : Prop :=
  ∃ v C', K v C' ∧ R s'.heap v x ∧ Ok T C' s' ∧ Go C h C' s'.heap
theorem PostG.inE {α β : Type} {T : TI} {C : Cs} {h : Heap} {R : Heap → β → α → Prop} {env : Env} {ℓ : Lo} {K : β → Cs → Prop} {x : α} {s : Shared} {P : Prop} (p : PostG T C h R (fun v C' => ∃ H', C' = lc env ℓ :: H' ∧ K v H') x s)
    (f : ∀ v H', K v H' → R s.heap v x → Ok T (lc env ℓ :: H') s → Go C h (lc env ℓ :: H') s.heap → P) : P := by
  obtain ⟨v, _, ⟨H', rfl, hK⟩, r, k, g⟩ := p
  exact f v H' hK r k g
theorem PostG.stE {α β : Type} {T : TI} {C : Cs} {h : Heap} {R : Heap → β → α → Prop} {env : Env} {K : β → Lo → Cs → Prop} {x : α} {s : Shared} {P : Prop} (p : PostG T C h R (fun f C' => ∃ ℓ' H', C' = lc env ℓ' :: H' ∧ K f ℓ' H') x s)
    (f : ∀ v ℓ' H', K v ℓ' H' → R s.heap v x → Ok T (lc env ℓ' :: H') s → Go C h (lc env ℓ' :: H') s.heap → P) : P := by
  obtain ⟨v, _, ⟨ℓ', H', rfl, hK⟩, r, k, g⟩ := p
  exact f v ℓ' H' hK r k g
theorem PostG.inI {α β : Type} {T : TI} {C : Cs} {h : Heap} {R : Heap → β → α → Prop} {env : Env} {ℓ : Lo} {K : β → Cs → Prop} {x : α} {s : Shared} {v : β} {H' : Cs} (hK : K v H') (r : R s.heap v x) (k : Ok T (lc env ℓ :: H') s) (g : Go C h (lc env ℓ :: H') s.heap) :
    PostG T C h R (fun v C' => ∃ H', C' = lc env ℓ :: H' ∧ K v H') x s := ⟨v, _, ⟨H', rfl, hK⟩, r, k, g⟩
theorem PostG.stI {α β : Type} {T : TI} {C : Cs} {h : Heap} {R : Heap → β → α → Prop} {env : Env} {K : β → Lo → Cs → Prop} {x : α} {s : Shared} {v : β} {ℓ' : Lo} {H' : Cs} (hK : K v ℓ' H') (r : R s.heap v x) (k : Ok T (lc env ℓ' :: H') s) (g : Go C h (lc env ℓ' :: H') s.heap) :
    PostG T C h R (fun f C' => ∃ ℓ' H', C' = lc env ℓ' :: H' ∧ K f ℓ' H') x s := ⟨v, _, ⟨ℓ', H', rfl, hK⟩, r, k, g⟩
noncomputable def W {α β : Type} (T : TI) (A : Around) (C : Cs) (R : Heap → β → α → Prop) (t : Sem α) (K : β → Cs → Prop) : Prop :=
  ∀ s, Ok T C s → wpAny (Mo T) A t (PostG T C s.heap R K) NoE s
section
variable {α β γ δ : Type} {T : TI} {A : Around} {C C₁ : Cs} {R : Heap → β → α → Prop} {R' : Heap → δ → γ → Prop}
theorem PostG.trans {h h₁ : Heap} {K : β → Cs → Prop} {x : α} {s' : Shared} (g : Go C h C₁ h₁) (p : PostG T C₁ h₁ R K x s') : PostG T C h R K x s' := by
  obtain ⟨v, C', hK, r, k, g'⟩ := p
  exact ⟨v, C', hK, r, k, g.trans g'⟩
theorem wp_trans {t : Sem γ} {K : δ → Cs → Prop} {h : Heap} {s : Shared} (g : Go C h C₁ s.heap) (w : wpAny (Mo T) A t (PostG T C₁ s.heap R' K) NoE s) : wpAny (Mo T) A t (PostG T C h R' K) NoE s :=
  wpAny_mono w (fun _ _ p => p.trans g) fun _ _ e => e
end

inductive Fl where
  | next | brk | cont
  | ret (v : V)
noncomputable def RelF (h : Heap) : Fl → Flow → Prop
  | .next, f => f = .next
  | .brk, f => f = .brk
  | .cont, f => f = .cont
  | .ret v, f => ∃ x, f = .ret x ∧ Rel h v x
noncomputable def RelB (_ : Heap) (b : Bool) (x : Bool) : Prop := x = b

structure Ev (T : TI) (A : Around) (env : Env) (ℓ : Lo) (H : Cs) (e : Expr) (K : V → Cs → Prop) : Prop where
  run : W T A (lc env ℓ :: H) Rel (eval e env) (fun v C' => ∃ H', C' = lc env ℓ :: H' ∧ K v H')
structure Evs (T : TI) (A : Around) (env : Env) (ℓ : Lo) (H : Cs) (pos : Pos) (es : List Expr) (K : List V → Cs → Prop) : Prop where
  run : W T A (lc env ℓ :: H) RelL (spliced (backTo pos (starEach es env))) (fun v C' => ∃ H', C' = lc env ℓ :: H' ∧ K v H')
structure Tr (T : TI) (A : Around) (env : Env) (ℓ : Lo) (H : Cs) (e : Expr) (K : Bool → Cs → Prop) : Prop where
  run : W T A (lc env ℓ :: H) RelB (isTrue e env (eval e env)) (fun v C' => ∃ H', C' = lc env ℓ :: H' ∧ K v H')
structure Ex (T : TI) (A : Around) (env : Env) (ℓ : Lo) (H : Cs) (st : Stmt) (K : Fl → Lo → Cs → Prop) : Prop where
  run : W T A (lc env ℓ :: H) RelF (exec st env) (fun f C' => ∃ ℓ' H', C' = lc env ℓ' :: H' ∧ K f ℓ' H')
structure Exs (T : TI) (A : Around) (env : Env) (ℓ : Lo) (H : Cs) (sts : List Stmt) (K : Fl → Lo → Cs → Prop) : Prop where
  run : W T A (lc env ℓ :: H) RelF (execs sts env) (fun f C' => ∃ ℓ' H', C' = lc env ℓ' :: H' ∧ K f ℓ' H')

section
variable {T : TI} {A : Around} {env : Env} {ℓ : Lo} {H : Cs}

theorem ret_grow {K : V → Cs → Prop} {v : V} {x : Value} {s s' : Shared} (h : K v H) (k : Ok T (lc env ℓ :: H) s) (g : Grow s s') (r : Rel s'.heap v x) :
    PostG T (lc env ℓ :: H) s.heap Rel (fun v C' => ∃ H', C' = lc env ℓ :: H' ∧ K v H') x s' :=
  (PostG.inI (v := v) h r ((k.grow g).1) ((k.grow g).2))
theorem ret_growC {C : Cs} {K : V → Cs → Prop} {v : V} {x : Value} {s s' : Shared} (h : K v C) (k : Ok T C s) (g : Grow s s') (r : Rel s'.heap v x) : PostG T C s.heap Rel K x s' :=
  ⟨v, _, h, r, (k.grow g).1, (k.grow g).2⟩

theorem Ev_int {i : Int} {kd : Nat} {pos : Pos} {K} (h : K (.int i) H) : Ev T A env ℓ H (.Constant (.int i) kd pos) K := ⟨fun s k =>
  wpAny_Constant_int (ret_grow h k (Grow.tok s _) ⟨_, rfl⟩)⟩
theorem Ev_str {x : Str} {kd : Nat} {pos : Pos} {K} (h : K (.str x) H) : Ev T A env ℓ H (.Constant (.str x) kd pos) K := ⟨fun s k =>
  wpAny_Constant_str (ret_grow h k (Grow.tok s _) ⟨_, rfl⟩)⟩
theorem Ev_none {kd : Nat} {pos : Pos} {K} (h : K .none H) : Ev T A env ℓ H (.Constant .none kd pos) K := ⟨fun s k =>
  wpAny_Constant_none (ret_grow h k (Grow.refl s) rfl)⟩
theorem loc_of {s : Shared} (k : Ok T (lc env ℓ :: H) s) : CellAt T s.heap env.locals (.loc env ℓ) := k.cells _ (.head _)
/-- a name of the frame -/
theorem Ev_name {x : Str} {pos : Pos} {v : V} {K} (hl : ℓ.lookup x = some v) (h : K v H) (hk : env.scope.kind = .function := by rfl) (hd : (x == ("__debug__" : Str)) = false := by decide +kernel) :
    Ev T A env ℓ H (.Name x pos) K := by
  refine ⟨fun s k => ?_⟩
  obtain ⟨_, ⟨m, hn, hv⟩, _⟩ := loc_of k
  rcases hv x v hl with ⟨hk', y, hy, r⟩ | ⟨hk', c, y, hc, _, hi, r⟩
  · exact wpAny_Name (wpAny_loadName_local hk hk' hn hy (ret_grow h k (Grow.refl s) r)) hd
  · exact wpAny_Name (wpAny_loadName_cell hk hk' hc hi (ret_grow h k (Grow.refl s) r)) hd

noncomputable def GlobIs (T : TI) (x : Str) (y : Value) : Prop := ∃ m, T.h₁.Ns mainGlobals m ∧ m x = some y
noncomputable def BuiltIs (T : TI) (x : Str) (y : Value) : Prop := ∃ m mb, T.h₁.Ns mainGlobals m ∧ m x = none ∧ T.h₁.Ns builtinsNs mb ∧ mb x = some y
theorem Ns.top {s : Shared} {C : Cs} (k : Ok T C s) {a : Addr} {m} (hn : T.h₁.Ns a m) (ht : a ≠ T.tb) : s.heap.Ns a m := Ns.keep' hn fun o e => k.top _ o e ht
/-- a def or a class of the text -/
theorem Ev_glob {x : Str} {pos : Pos} {a : Addr} {K} (hg : GlobIs T x (.ref a)) (ht : mainGlobals ≠ T.tb) (h : K (.ref a) H) (hx : env.kindOf x = some .globalImplicit := by kernel_rfl) (hk : env.scope.kind = .function := by rfl)
    (he : env.globals = mainGlobals := by rfl) (hd : (x == ("__debug__" : Str)) = false := by decide +kernel) : Ev T A env ℓ H (.Name x pos) K := by
  refine ⟨fun s k => ?_⟩
  obtain ⟨m, hn, hm⟩ := hg
  exact Name_function_global hk hx (loadGlobal_global (he ▸ Ns.top k hn ht) hm (ret_grow h k (Grow.refl s) rfl)) hd
theorem Ev_builtin {x : Str} {pos : Pos} {v : V} {y : Value} {K} (hg : BuiltIs T x y) (ht : mainGlobals ≠ T.tb) (ht' : builtinsNs ≠ T.tb) (hr : ∀ h, Rel h v y) (h : K v H) (hx : env.kindOf x = some .globalImplicit := by kernel_rfl) (hk : env.scope.kind = .function := by rfl)
    (he : env.globals = mainGlobals := by rfl) (hb : env.builtins = builtinsNs := by rfl) (hd : (x == ("__debug__" : Str)) = false := by decide +kernel) : Ev T A env ℓ H (.Name x pos) K := by
  refine ⟨fun s k => ?_⟩
  obtain ⟨m, mb, hn, hm, hnb, hmb⟩ := hg
  exact Name_function_global hk hx (loadGlobal_builtin (he ▸ Ns.top k hn ht) hm (hb ▸ Ns.top k hnb ht') hmb (ret_grow h k (Grow.refl s) (hr _))) hd

/-- an operation upon two values -/
structure OpB (T : TI) (A : Around) (C : Cs) (op : Operator) (v w : V) (K : V → Cs → Prop) : Prop where
  run : ∀ s x y, Ok T C s → Rel s.heap v x → Rel s.heap w y → wpAny (Mo T) A (binaryOp op x y) (PostG T C s.heap Rel K) NoE s
structure OpC (T : TI) (A : Around) (C : Cs) (op : CmpOp) (v w : V) (K : V → Cs → Prop) : Prop where
  run : ∀ s x y, Ok T C s → Rel s.heap v x → Rel s.heap w y → wpAny (Mo T) A (compareOp op x y) (PostG T C s.heap Rel K) NoE s
structure OpI (T : TI) (A : Around) (C : Cs) (op : Operator) (v w : V) (K : V → Cs → Prop) : Prop where
  run : ∀ s x y, Ok T C s → Rel s.heap v x → Rel s.heap w y → wpAny (Mo T) A (inplaceOp op x y) (PostG T C s.heap Rel K) NoE s
structure OpS (T : TI) (A : Around) (C : Cs) (value slice : Expr) (v w : V) (K : V → Cs → Prop) : Prop where
  run : ∀ s x y, Ok T C s → Rel s.heap v x → Rel s.heap w y → wpAny (Mo T) A (subscriptTail value slice x y) (PostG T C s.heap Rel K) NoE s
structure OpT (T : TI) (A : Around) (C : Cs) (v : V) (K : Bool → Cs → Prop) : Prop where
  run : ∀ s x, Ok T C s → Rel s.heap v x → wpAny (Mo T) A (truthy x) (PostG T C s.heap RelB K) NoE s
noncomputable abbrev inH (env : Env) (ℓ : Lo) {β : Type} (K : β → Cs → Prop) : β → Cs → Prop := fun v C' => ∃ H', C' = lc env ℓ :: H' ∧ K v H'

theorem inI {β : Type} {K : β → Cs → Prop} {v : β} {H : Cs} (h : K v H) : inH env ℓ K v (lc env ℓ :: H) := ⟨H, rfl, h⟩
theorem Ev_binop {l r : Expr} {op : Operator} {pos : Pos} {K}
    (h : Ev T A env ℓ H l fun v H₁ => Ev T A env ℓ H₁ r fun w H₂ => OpB T A (lc env ℓ :: H₂) op v w (inH env ℓ K)) : Ev T A env ℓ H (.BinOp l op r pos) K := by
  refine ⟨fun s k => ?_⟩
  refine wpAny_BinOp (wpAny_mono (h.run s k) ?_ fun _ _ e => e)
  refine fun x s₁ p₀ => p₀.inE fun v H₁ hK r₁ k₁ g₁ => ?_
  refine wpAny_mono (hK.run s₁ k₁) ?_ fun _ _ e => e
  refine fun y s₂ p₀ => p₀.inE fun w H₂ hK₂ r₂ k₂ g₂ => ?_
  exact wp_trans (g₁.trans g₂) (hK₂.run s₂ x y k₂ (r₁.keep (g₂.tup k₁)) r₂)
theorem Ev_compare {l r : Expr} {op : CmpOp} {pos : Pos} {K}
    (h : Ev T A env ℓ H l fun v H₁ => Ev T A env ℓ H₁ r fun w H₂ => OpC T A (lc env ℓ :: H₂) op v w (inH env ℓ K)) (hm : behindInMarks op r = false := by kernel_rfl) : Ev T A env ℓ H (.Compare l [op] [r] pos) K := by
  refine ⟨fun s k => ?_⟩
  refine wpAny_Compare1 (wpAny_mono (h.run s k) ?_ fun _ _ e => e) hm
  refine fun x s₁ p₀ => p₀.inE fun v H₁ hK r₁ k₁ g₁ => ?_
  refine wpAny_mono (hK.run s₁ k₁) ?_ fun _ _ e => e
  refine fun y s₂ p₀ => p₀.inE fun w H₂ hK₂ r₂ k₂ g₂ => ?_
  exact wp_trans (g₁.trans g₂) (hK₂.run s₂ x y k₂ (r₁.keep (g₂.tup k₁)) r₂)
theorem Tr_compare {l r : Expr} {op : CmpOp} {pos : Pos} {K}
    (h : Ev T A env ℓ H l fun v H₁ => Ev T A env ℓ H₁ r fun w H₂ => OpC T A (lc env ℓ :: H₂) op v w (fun z C' => ∃ H', C' = lc env ℓ :: H' ∧ ∃ b, z = .bool b ∧ K b H')) (hm : behindInMarks op r = false := by kernel_rfl) :
    Tr T A env ℓ H (.Compare l [op] [r] pos) K := by
  refine ⟨fun s k => ?_⟩
  refine wpAny_isTrue_Compare1 (wpAny_mono (h.run s k) ?_ fun _ _ e => e) hm
  refine fun x s₁ p₀ => p₀.inE fun v H₁ hK r₁ k₁ g₁ => ?_
  refine wpAny_mono (hK.run s₁ k₁) ?_ fun _ _ e => e
  refine fun y s₂ p₀ => p₀.inE fun w H₂ hK₂ r₂ k₂ g₂ => ?_
  refine wpAny_mono (hK₂.run s₂ x y k₂ (r₁.keep (g₂.tup k₁)) r₂) ?_ fun _ _ e => e
  refine fun z s₃ p₀ => p₀.inE fun v₀ H₃ hh₀ r₃ k₃ g₃ => ?_
  obtain ⟨b, rfl, hK₃⟩ := hh₀
  cases r₃
  exact wpAny_truthy_bool (PostG.inI (v := b) hK₃ rfl k₃ ((g₁.trans g₂).trans g₃))
theorem Tr_not {x : Expr} {pos : Pos} {K} (h : Tr T A env ℓ H x fun b H' => K (!b) H') : Tr T A env ℓ H (.UnaryOp .Not x pos) K := ⟨fun s k =>
  wpAny_isTrue_Not (wpAny_mono (h.run s k) (by
    refine fun b s₁ p₀ => p₀.inE fun b' H₁ hK rr₀ k₁ g₁ => ?_
    obtain rfl := rr₀
    exact PostG.inI (v := !b) hK rfl k₁ g₁) fun _ _ e => e)⟩
/-- a test that is any other expression -/
theorem Tr_value {e : Expr} {K} (h : Ev T A env ℓ H e fun v H₁ => OpT T A (lc env ℓ :: H₁) v (inH env ℓ K)) (he : isTrue e env (eval e env) = (do let v ← eval e env; standAt e.pos; holding [v] (truthy v)) := by rfl) : Tr T A env ℓ H e K := by
  refine ⟨fun s k => ?_⟩
  refine wpAny_isTrue_value (wpAny_mono (h.run s k) ?_ fun _ _ e => e) he
  refine fun x s₁ p₀ => p₀.inE fun v H₁ hK r₁ k₁ g₁ => ?_
  exact wp_trans g₁ (hK.run s₁ x k₁ r₁)
theorem Tr_and {x y : Expr} {pos : Pos} {K} (h : Tr T A env ℓ H x fun b H₁ => if b then Tr T A env ℓ H₁ y K else K false H₁) : Tr T A env ℓ H (.BoolOp .And [x, y] pos) K := by
  refine ⟨fun s k => ?_⟩
  refine wpAny_isTrue_BoolOp (wpAny_allTrue_And_cons (wpAny_mono (h.run s k) ?_ fun _ _ e => e))
  refine fun b s₁ p₀ => p₀.inE fun b' H₁ hK rr₀ k₁ g₁ => ?_
  obtain rfl := rr₀
  cases b with
  | false => exact PostG.inI (v := false) hK rfl k₁ g₁
  | true =>
    refine wpAny_allTrue_And_cons (wpAny_mono (hK.run s₁ k₁) ?_ fun _ _ e => e)
    refine fun b s₂ p₀ => p₀.inE fun b' H₂ hK₂ rr₀ k₂ g₂ => ?_
    obtain rfl := rr₀
    cases b with
    | false => exact PostG.inI (v := false) hK₂ rfl k₂ (g₁.trans g₂)
    | true => exact wpAny_allTrue_And_nil (PostG.inI (v := true) hK₂ rfl k₂ (g₁.trans g₂))
theorem Tr_or {x y : Expr} {pos : Pos} {K} (h : Tr T A env ℓ H x fun b H₁ => if b then K true H₁ else Tr T A env ℓ H₁ y K) : Tr T A env ℓ H (.BoolOp .Or [x, y] pos) K := by
  refine ⟨fun s k => ?_⟩
  refine wpAny_isTrue_BoolOp (wpAny_allTrue_Or_cons (wpAny_mono (h.run s k) ?_ fun _ _ e => e))
  refine fun b s₁ p₀ => p₀.inE fun b' H₁ hK rr₀ k₁ g₁ => ?_
  obtain rfl := rr₀
  cases b with
  | true => exact PostG.inI (v := true) hK rfl k₁ g₁
  | false =>
    refine wpAny_allTrue_Or_cons (wpAny_mono (hK.run s₁ k₁) ?_ fun _ _ e => e)
    refine fun b s₂ p₀ => p₀.inE fun b' H₂ hK₂ rr₀ k₂ g₂ => ?_
    obtain rfl := rr₀
    cases b with
    | true => exact PostG.inI (v := true) hK₂ rfl k₂ (g₁.trans g₂)
    | false => exact wpAny_allTrue_Or_nil (PostG.inI (v := false) hK₂ rfl k₂ (g₁.trans g₂))
theorem Evs_nil {pos : Pos} {K} (h : K [] H) : Evs T A env ℓ H pos [] K := ⟨fun s k => wpAny_items_nil (PostG.inI (v := []) h rfl k (Go.refl _ _))⟩
theorem Evs_cons {pos : Pos} {e : Expr} {es : List Expr} {K} (h : Ev T A env ℓ H e fun v H₁ => Evs T A env ℓ H₁ pos es fun vs H₂ => K (v :: vs) H₂)
    (he : starEach (e :: es) env = (false, eval e env) :: starEach es env := by rfl) : Evs T A env ℓ H pos (e :: es) K := by
  refine ⟨fun s k => ?_⟩
  refine wpAny_items_cons (wpAny_mono (h.run s k) ?_ fun _ _ e => e) he
  refine fun x s₁ p₀ => p₀.inE fun v H₁ hK r₁ k₁ g₁ => ?_
  refine wpAny_mono (hK.run s₁ k₁) ?_ fun _ _ e => e
  refine fun xs s₂ p₀ => p₀.inE fun vs H₂ hK₂ r₂ k₂ g₂ => ?_
  exact PostG.inI (v := v :: vs) hK₂ ⟨x, xs, rfl, r₁.keep (g₂.tup k₁), r₂⟩ k₂ (g₁.trans g₂)
end
theorem RelL.length {h : Heap} : ∀ {vs : List V} {xs : List Value}, RelL h vs xs → xs.length = vs.length
  | [], _, r => by simp only [RelL] at r; subst r; rfl
  | _ :: vs, _, r => by
    simp only [RelL] at r
    obtain ⟨x, ys, rfl, _, b⟩ := r
    simp [b.length]
section
variable {T : TI} {A : Around} {env : Env} {ℓ : Lo} {H : Cs}
theorem Ev_tuple {es : List Expr} {kd : Nat} {pos : Pos} {K} (h : Evs T A env ℓ H pos es fun vs H₁ => vs.length ≤ 1000 ∧ K (.tup vs) H₁) : Ev T A env ℓ H (.Tuple es kd pos) K := by
  refine ⟨fun s k => ?_⟩
  refine wpAny_Tuple (wpAny_mono (h.run s k) ?_ fun _ _ e => e)
  refine fun xs s₁ p₀ => p₀.inE fun vs H₁ hh₀ r₁ k₁ g₁ => ?_
  obtain ⟨hn, hK⟩ := hh₀
  have gr := Grow.push s₁ { cls := .type "tuple", data := .seq xs.toArray } s₁.toks
  refine ⟨by rw [r₁.length]; exact Nat.le_trans hn (by decide), .tup vs, _, ⟨H₁, rfl, hK⟩, ?_, (k₁.grow gr).1, g₁.trans (k₁.grow gr).2⟩
  exact ⟨_, xs.toArray, 0, rfl, IsT.new _ _, by simpa using r₁.keep gr.tup⟩
theorem Ev_list {es : List Expr} {pos : Pos} {K} (h : Evs T A env ℓ H pos es fun vs H₁ => vs.length ≤ 1000 ∧ ∀ a, K (.ref a) ((a, .list vs) :: H₁)) : Ev T A env ℓ H (.List es pos) K := by
  refine ⟨fun s k => ?_⟩
  refine wpAny_List (wpAny_mono (h.run s k) ?_ fun _ _ e => e)
  refine fun xs s₁ p₀ => p₀.inE fun vs H₁ hh₀ r₁ k₁ g₁ => ?_
  obtain ⟨hn, hK⟩ := hh₀
  have gr := Grow.push s₁ { cls := .type "list", data := .seq xs.toArray } s₁.toks
  obtain ⟨k₂, g₂⟩ := k₁.add gr (a := s₁.heap.objs.size) (c := .list vs) ⟨xs.toArray, 0, IsL.new _ _, by simpa using r₁.keep gr.tup⟩ (fun b hb => by cases List.mem_singleton.mp hb; exact get?_end _) (by simp [foot])
  have p : ((s₁.heap.objs.size, Cell.list vs) :: lc env ℓ :: H₁).Perm (lc env ℓ :: (s₁.heap.objs.size, Cell.list vs) :: H₁) := .swap _ _ _
  exact ⟨by rw [r₁.length]; exact Nat.le_trans hn (by decide), .ref s₁.heap.objs.size, _, ⟨_, rfl, hK _⟩, rfl, k₂.perm p, (g₁.trans g₂).permR p⟩

/-- statements -/
theorem Exs_nil {K} (h : K .next ℓ H) : Exs T A env ℓ H [] K := ⟨fun s k => wpAny_execs_nil (PostG.stI (v := .next) h rfl k (Go.refl _ _))⟩
noncomputable def seqK (T : TI) (A : Around) (env : Env) (rest : List Stmt) (K : Fl → Lo → Cs → Prop) : Fl → Lo → Cs → Prop
  | .next, ℓ, H => Exs T A env ℓ H rest K
  | .brk, ℓ, H => K .brk ℓ H
  | .cont, ℓ, H => K .cont ℓ H
  | .ret v, ℓ, H => K (.ret v) ℓ H
theorem Exs_cons {st : Stmt} {rest : List Stmt} {K} (h : Ex T A env ℓ H st (seqK T A env rest K)) : Exs T A env ℓ H (st :: rest) K := by
  refine ⟨fun s k => ?_⟩
  refine wpAny_execs_cons (wpAny_mono (h.run s k) ?_ fun _ _ e => e)
  refine fun f s₁ p₀ => p₀.stE fun fl ℓ₁ H₁ hK r₁ k₁ g₁ => ?_
  cases fl with
  | next => cases r₁; exact wp_trans g₁ (hK.run s₁ k₁)
  | brk => cases r₁; exact PostG.stI (v := .brk) hK rfl k₁ g₁
  | cont => cases r₁; exact PostG.stI (v := .cont) hK rfl k₁ g₁
  | ret v => obtain ⟨x, rfl, r⟩ := r₁; exact ⟨.ret v, _, ⟨ℓ₁, H₁, rfl, hK⟩, ⟨x, rfl, r⟩, k₁, g₁⟩
theorem Ex_if {t : Expr} {a b : List Stmt} {pos : Pos} {K} (h : Tr T A env ℓ H t fun c H₁ => if c then Exs T A env ℓ H₁ a K else Exs T A env ℓ H₁ b K) : Ex T A env ℓ H (.If t a b pos) K := by
  refine ⟨fun s k => ?_⟩
  refine wpAny_If (wpAny_mono (h.run s k) ?_ fun _ _ e => e)
  refine fun c s₁ p₀ => p₀.inE fun b' H₁ hK rr₀ k₁ g₁ => ?_
  obtain rfl := rr₀
  cases c with
  | true => exact wp_trans g₁ (hK.run s₁ k₁)
  | false => exact wp_trans g₁ (hK.run s₁ k₁)
theorem Ex_return {e : Expr} {pos : Pos} {K} (h : Ev T A env ℓ H e fun v H₁ => K (.ret v) ℓ H₁) : Ex T A env ℓ H (.Return (some e) pos) K := by
  refine ⟨fun s k => ?_⟩
  refine wpAny_Return_some (wpAny_mono (h.run s k) ?_ fun _ _ e => e)
  refine fun x s₁ p₀ => p₀.inE fun v H₁ hK r₁ k₁ g₁ => ?_
  exact PostG.stI (v := .ret v) hK ⟨x, rfl, r₁⟩ k₁ g₁
theorem Ex_break {pos : Pos} {K} (h : K .brk ℓ H) : Ex T A env ℓ H (.Break pos) K := ⟨fun s k => wpAny_Break (PostG.stI (v := .brk) h rfl k (Go.refl _ _))⟩
theorem Ex_continue {pos : Pos} {K} (h : K .cont ℓ H) : Ex T A env ℓ H (.Continue pos) K := ⟨fun s k => wpAny_Continue (PostG.stI (v := .cont) h rfl k (Go.refl _ _))⟩
/-- a name bound anew -/
inductive Upd (x : Str) (v : V) : Lo → Lo → Prop
  | nil : Upd x v [] [(x, v)]
  | hit {w : V} {ℓ : Lo} : Upd x v ((x, w) :: ℓ) ((x, v) :: ℓ)
  | miss {y : Str} {w : V} {ℓ ℓ' : Lo} (hne : (x == y) = false) (u : Upd x v ℓ ℓ') : Upd x v ((y, w) :: ℓ) ((y, w) :: ℓ')
theorem Upd.look {x : Str} {v : V} {ℓ ℓ' : Lo} (u : Upd x v ℓ ℓ') (y : Str) : ℓ'.lookup y = if y = x then some v else ℓ.lookup y := by
  induction u with
  | nil =>
    by_cases h : y = x
    · subst h; simp
    · have hb : (y == x) = false := beq_eq_false_iff_ne.mpr h
      simp [List.lookup_cons, hb, h]
  | hit =>
    by_cases h : y = x
    · subst h; simp
    · have hb : (y == x) = false := beq_eq_false_iff_ne.mpr h
      simp [List.lookup_cons, hb, h]
  | miss hne _ ih =>
    rename_i z w ℓ ℓ' _
    by_cases h : y = z
    · subst h
      have : y ≠ x := fun e => by subst e; simp at hne
      simp [this]
    · have hb : (y == z) = false := beq_eq_false_iff_ne.mpr h
      rw [List.lookup_cons, List.lookup_cons, hb, ih]
theorem store_ok {x : Str} {v : V} {ℓ' : Lo} {y : Value} {s : Shared} {Q : Unit → Shared → Prop} (u : Upd x v ℓ ℓ') (k : Ok T (lc env ℓ :: H) s) (r : Rel s.heap v y) (hk' : env.scope.kind = .function)
    (hl : env.kindOf x = some .local ∨ (env.kindOf x = some .cell ∧ ∃ c, env.cells.lookup x = some c ∧ c ∈ ownCells env ∧ (∀ x' c', env.cells.lookup x' = some c' → c' = c → x' = x)))
    (h : ∀ s', Ok T (lc env ℓ' :: H) s' → Go (lc env ℓ :: H) s.heap (lc env ℓ' :: H) s'.heap → Q () s') : wpAny (Mo T) A (storeName env x y) Q NoE s := by
  obtain ⟨_, ⟨m, hn, hv⟩, hoc⟩ := loc_of k
  have nd : (foot env.locals (.loc env ℓ)).Nodup := (List.nodup_append.mp (show (foot env.locals (.loc env ℓ) ++ foots H).Nodup from k.nd)).1
  have hL : env.locals ∉ ownCells env := (List.nodup_cons.mp nd).1
  rcases hl with hl | ⟨hl, c, hc, hcm, huq⟩
  · refine wpAny_storeName_local hl hn (fun h' hn' hs' => ?_) (by rw [hk']; rfl)
    have ca : TupKeep s.heap h' → CellAt T h' env.locals (.loc env ℓ') := by
      intro tk
      refine ⟨rfl, ⟨_, hn', fun z w hz => ?_⟩, fun c hc => ?_⟩
      · rw [u.look] at hz
        by_cases e : z = x
        · subst e
          rw [if_pos rfl] at hz; cases hz
          exact .inl ⟨hl, y, if_pos rfl, r.keep tk⟩
        · rw [if_neg e] at hz
          rcases hv z w hz with ⟨a1, a2, a3, a4⟩ | ⟨a1, c, a2, a3, a4, a5, a6⟩
          · exact .inl ⟨a1, a2, by simp only [if_neg e]; exact a3, a4.keep tk⟩
          · exact .inr ⟨a1, c, a2, a3, a4, IsCell.keep' a5 (fun o e => (hs'.2 c fun z => hL (z ▸ a4)).trans e), a6.keep tk⟩
      · obtain ⟨y', hy'⟩ := hoc c hc
        exact ⟨y', IsCell.keep' hy' fun o e => (hs'.2 c fun z => hL (z ▸ hc)).trans e⟩
    obtain ⟨k', g'⟩ := k.upd (i := 0) (c' := .loc env ℓ') (s' := { s with heap := h', toks := s.toks + 1 }) rfl (fun b o e hb => (hs'.2 b fun z => hb (z ▸ .head _)).trans e) ca rfl rfl rfl
    exact h _ k' g'
  · obtain ⟨y₀, hy₀⟩ := hoc c hcm
    refine wpAny_storeName_cell hk' hl hc hy₀ (fun h' hn' hs' => ?_)
    have ca : TupKeep s.heap h' → CellAt T h' env.locals (.loc env ℓ') := by
      intro tk
      refine ⟨rfl, ⟨m, Ns.keep' hn fun o e => (hs'.2 env.locals fun z => hL (by rw [z]; exact hcm)).trans e, fun z w hz => ?_⟩, fun c' hc' => ?_⟩
      · rw [u.look] at hz
        by_cases e : z = x
        · subst e
          rw [if_pos rfl] at hz; cases hz
          exact .inr ⟨hl, c, y, hc, hcm, hn', r.keep tk⟩
        · rw [if_neg e] at hz
          rcases hv z w hz with ⟨a1, a2, a3, a4⟩ | ⟨a1, c', a2, a3, a4, a5, a6⟩
          · exact .inl ⟨a1, a2, a3, a4.keep tk⟩
          · exact .inr ⟨a1, c', a2, a3, a4, IsCell.keep' a5 (fun o e' => (hs'.2 c' fun z' => e (huq z c' a3 z')).trans e'), a6.keep tk⟩
      · by_cases e : c' = c
        · subst e; exact ⟨_, hn'⟩
        · obtain ⟨y', hy'⟩ := hoc c' hc'
          exact ⟨y', IsCell.keep' hy' fun o e' => (hs'.2 c' e).trans e'⟩
    obtain ⟨k', g'⟩ := k.upd (i := 0) (c' := .loc env ℓ') (s' := { s with heap := h' }) rfl (fun b o e hb => (hs'.2 b fun z => hb (z ▸ .tail _ hcm)).trans e) ca rfl rfl rfl
    exact h _ k' g'
theorem Ex_assign {x : Str} {pos' pos : Pos} {e : Expr} {K} (h : Ev T A env ℓ H e fun v H₁ => ∃ ℓ', Upd x v ℓ ℓ' ∧ K .next ℓ' H₁)
    (hl : env.kindOf x = some .local := by kernel_rfl) (hk' : env.scope.kind = .function := by rfl) (hs : swapsWith e (some (.Name x pos')) pos.line env = pure false := by rfl) : Ex T A env ℓ H (.Assign [.Name x pos'] e pos) K := by
  refine ⟨fun s k => ?_⟩
  refine wpAny_Assign_Name (wpAny_mono (h.run s k) ?_ fun _ _ e => e) hs
  refine fun y s₁ p₀ => p₀.inE fun v H₁ hh₀ r₁ k₁ g₁ => ?_
  obtain ⟨ℓ', u, hK⟩ := hh₀
  exact store_ok u k₁ r₁ hk' (.inl hl) fun s' k' g' => PostG.stI (v := .next) hK rfl k' (g₁.trans g')
theorem Ex_aug {x : Str} {pos' pos : Pos} {op : Operator} {e : Expr} {v : V} {K} (hv : ℓ.lookup x = some v) (h : Ev T A env ℓ H e fun w H₁ => OpI T A (lc env ℓ :: H₁) op v w (inH env ℓ fun z H₂ => ∃ ℓ', Upd x z ℓ ℓ' ∧ K .next ℓ' H₂))
    (hl : env.kindOf x = some .local := by kernel_rfl) (hk' : env.scope.kind = .function := by rfl) : Ex T A env ℓ H (.AugAssign (.Name x pos') op e pos) K := by
  refine ⟨fun s k => ?_⟩
  obtain ⟨_, ⟨m, hn, hv'⟩, _⟩ := loc_of k
  rcases hv' x v hv with ⟨_, y, hy, r⟩ | ⟨hc, _⟩
  · refine wpAny_AugAssign_Name (wpAny_loadName_local hk' hl hn hy (wpAny_mono (h.run s k) ?_ fun _ _ e => e))
    refine fun z s₁ p₀ => p₀.inE fun w H₁ hK r₁ k₁ g₁ => ?_
    refine wpAny_mono (hK.run s₁ y z k₁ (r.keep (g₁.tup k)) r₁) ?_ fun _ _ e => e
    refine fun q s₂ p₀ => p₀.inE fun u' H₂ hh₀ r₂ k₂ g₂ => ?_
    obtain ⟨ℓ', u, hK₂⟩ := hh₀
    exact store_ok u k₂ r₂ hk' (.inl hl) fun s' k' g' => PostG.stI (v := .next) hK₂ rfl k' ((g₁.trans g₂).trans g')
  · rw [hl] at hc; cases hc
/-- an expression for its own sake: its value is no object -/
theorem Ex_expr {e : Expr} {pos : Pos} {K} (h : Ev T A env ℓ H e fun v H₁ => v = .none ∧ K .next ℓ H₁) (hi : interactive env = false := by rfl) (hs : swapsWith e none pos.line env = pure false := by rfl) : Ex T A env ℓ H (.Expr e pos) K := by
  refine ⟨fun s k => ?_⟩
  refine wpAny_Expr (wpAny_mono (h.run s k) ?_ fun _ _ e => e) hi hs
  refine fun x s₁ p₀ => p₀.inE fun v₀ H₁ hh₀ r₁ k₁ g₁ => ?_
  obtain ⟨rfl, hK⟩ := hh₀
  cases r₁
  exact PostG.stI (v := .next) hK rfl k₁ g₁
end
end Mine
end
section
open PySem PySem.Spec PySem.Calls PyProof.Rows PySem.P
namespace Mine
/-- room for so many calls within calls -/
structure Rm (A : Around) (n : Nat) : Prop where
  handled : A.handled = none
  depth : A.depth + n ≤ 900
  units : A.units + 20 * n + 40 ≤ 9000
theorem Rm.lt {A : Around} {n : Nat} (r : Rm A n) : A.depth < recursionLimit := by have := r.depth; show A.depth < 1000; omega
theorem Rm.u {A : Around} {n : Nat} (r : Rm A n) : A.units < cLine := by have := r.units; show A.units < 9900; omega
theorem Rm.deeper {A : Around} {n : Nat} (r : Rm A (n + 1)) (env : Env) : Rm (A.deeper env) n := by
  refine ⟨r.handled, ?_, ?_⟩
  · have := r.depth; show A.depth + 1 + n ≤ 900; omega
  · have := r.units; show A.units + 3 + 20 * n + 40 ≤ 9000; omega
theorem Rm.in1 {A : Around} {n : Nat} (r : Rm A (n + 1)) : Rm A.in1 n := by
  refine ⟨r.handled, ?_, ?_⟩
  · have := r.depth; show A.depth + n ≤ 900; omega
  · have := r.units; show A.units + 1 + 20 * n + 40 ≤ 9000; omega
theorem Rm.le {A : Around} {n m : Nat} (r : Rm A n) (h : m ≤ n) : Rm A m := ⟨r.handled, by have := r.depth; omega, by have := r.units; omega⟩

theorem RelL.get {h : Heap} : ∀ {vs : List V} {xs : List Value} {n : Nat} {v : V}, RelL h vs xs → vs[n]? = some v → ∃ x, xs[n]? = some x ∧ Rel h v x
  | [], _, _, _, _, e => by cases e
  | w :: vs, _, n, v, r, e => by
    simp only [RelL] at r
    obtain ⟨x, ys, rfl, a, b⟩ := r
    cases n with
    | zero => cases e; exact ⟨x, rfl, a⟩
    | succ n =>
      obtain ⟨z, hz, rz⟩ := RelL.get (n := n) b (by simpa using e)
      exact ⟨z, by simpa using hz, rz⟩
theorem RelL.set {h : Heap} : ∀ {vs : List V} {xs : List Value} {n : Nat} {v : V} {x : Value}, RelL h vs xs → Rel h v x → RelL h (vs.set n v) (xs.set n x)
  | [], _, _, _, _, r, _ => by simp only [RelL] at r; subst r; simp [RelL]
  | w :: vs, _, n, v, y, r, e => by
    simp only [RelL] at r
    obtain ⟨x, ys, rfl, a, b⟩ := r
    cases n with
    | zero => exact ⟨y, ys, rfl, e, b⟩
    | succ n => exact ⟨x, ys.set n y, rfl, a, RelL.set b e⟩
theorem RelL.append {h : Heap} : ∀ {vs ws : List V} {xs ys : List Value}, RelL h vs xs → RelL h ws ys → RelL h (vs ++ ws) (xs ++ ys)
  | [], _, _, _, r, q => by simp only [RelL] at r; subst r; exact q
  | w :: vs, _, _, ys, r, q => by
    simp only [RelL] at r
    obtain ⟨x, zs, rfl, a, b⟩ := r
    exact ⟨x, zs ++ ys, rfl, a, RelL.append b q⟩
theorem RelL.one {h : Heap} {v : V} {x : Value} (r : Rel h v x) : RelL h [v] [x] := ⟨x, [], rfl, r, rfl⟩
theorem RelL.take {h : Heap} : ∀ {vs : List V} {xs : List Value} (n : Nat), RelL h vs xs → RelL h (vs.take n) (xs.take n)
  | [], _, n, r => by simp only [RelL] at r; subst r; simp [RelL]
  | w :: vs, _, 0, r => by simp [RelL]
  | w :: vs, _, n + 1, r => by
    simp only [RelL] at r
    obtain ⟨x, ys, rfl, a, b⟩ := r
    exact ⟨x, ys.take n, rfl, a, RelL.take n b⟩
theorem RelL.drop {h : Heap} : ∀ {vs : List V} {xs : List Value} (n : Nat), RelL h vs xs → RelL h (vs.drop n) (xs.drop n)
  | [], _, n, r => by simp only [RelL] at r; subst r; simp [RelL]
  | w :: vs, _, 0, r => r
  | w :: vs, _, n + 1, r => by
    simp only [RelL] at r
    obtain ⟨x, ys, rfl, a, b⟩ := r
    exact RelL.drop n b
section
variable {T : TI} {A : Around} {C : Cs}
theorem O_add {a b : Int} {K} (h : K (.int (a + b)) C) : OpB T A C .Add (.int a) (.int b) K := by
  refine ⟨?_⟩
  rintro s _ _ k ⟨t, rfl⟩ ⟨u, rfl⟩
  exact PySem.P.add_int (ret_growC h k (Grow.tok s _) ⟨_, rfl⟩)
theorem O_sub {a b : Int} {K} (h : K (.int (a - b)) C) : OpB T A C .Sub (.int a) (.int b) K := by
  refine ⟨?_⟩
  rintro s _ _ k ⟨t, rfl⟩ ⟨u, rfl⟩
  exact PySem.P.sub_int (ret_growC h k (Grow.tok s _) ⟨_, rfl⟩)
theorem O_iadd {a b : Int} {K} (h : K (.int (a + b)) C) : OpI T A C .Add (.int a) (.int b) K := by
  refine ⟨?_⟩
  rintro s _ _ k ⟨t, rfl⟩ ⟨u, rfl⟩
  exact PySem.P.iadd_int (ret_growC h k (Grow.tok s _) ⟨_, rfl⟩)
theorem O_mul {a b : Int} {K} (hm : IntMulOk a b) (h : K (.int (a * b)) C) : OpB T A C .Mult (.int a) (.int b) K := by
  refine ⟨?_⟩
  rintro s _ _ k ⟨t, rfl⟩ ⟨u, rfl⟩
  exact PySem.P.mul_int (ret_growC h k (Grow.tok s _) ⟨_, rfl⟩) hm
theorem O_fdiv {a b : Int} {K} (hb : b ≠ 0) (hs : b.natAbs < 1073741824) (h : K (.int (a.fdiv b)) C) : OpB T A C .FloorDiv (.int a) (.int b) K := by
  refine ⟨?_⟩
  rintro s _ _ k ⟨t, rfl⟩ ⟨u, rfl⟩
  exact PyProof.Rows.floordiv_int hb (ret_growC h k (Grow.tok s _) ⟨_, rfl⟩) (.inl (PyProof.noPylong_small hs))
theorem O_fmod {a b : Int} {K} (hb : b ≠ 0) (h : K (.int (a.fmod b)) C) : OpB T A C .Mod (.int a) (.int b) K := by
  refine ⟨?_⟩
  rintro s _ _ k ⟨t, rfl⟩ ⟨u, rfl⟩
  exact PyProof.Rows.mod_int hb (ret_growC h k (Grow.tok s _) ⟨_, rfl⟩)
theorem O_rsh {a n : Int} {K} (hn : 0 ≤ n) (h : K (.int (a.fdiv (2 ^ n.toNat))) C) : OpB T A C .RShift (.int a) (.int n) K := by
  refine ⟨?_⟩
  rintro s _ _ k ⟨t, rfl⟩ ⟨u, rfl⟩
  exact PyProof.Rows.rshift_int hn (ret_growC h k (Grow.tok s _) ⟨_, rfl⟩)
theorem O_pow {a n : Int} {K} (hn : 0 ≤ n) (hn2 : n ≤ 1000000) (ha : a.natAbs < 2 ^ 64) (h : K (.int (a ^ n.toNat)) C) : OpB T A C .Pow (.int a) (.int n) K := by
  refine ⟨?_⟩
  rintro s _ _ k ⟨t, rfl⟩ ⟨u, rfl⟩
  exact PyProof.Rows.pow_int_small hn hn2 ha (ret_growC h k (Grow.tok s _) ⟨_, rfl⟩)
theorem O_lt {a b : Int} {K} (h : K (.bool (decide (a < b))) C) : OpC T A C .Lt (.int a) (.int b) K := by
  refine ⟨?_⟩
  rintro s _ _ k ⟨t, rfl⟩ ⟨u, rfl⟩
  exact PySem.P.lt_int (ret_growC h k (Grow.refl s) rfl)
theorem O_le {a b : Int} {K} (h : K (.bool (decide (a ≤ b))) C) : OpC T A C .LtE (.int a) (.int b) K := by
  refine ⟨?_⟩
  rintro s _ _ k ⟨t, rfl⟩ ⟨u, rfl⟩
  exact PySem.P.le_int (ret_growC h k (Grow.refl s) rfl)
theorem O_gt {a b : Int} {K} (h : K (.bool (decide (a > b))) C) : OpC T A C .Gt (.int a) (.int b) K := by
  refine ⟨?_⟩
  rintro s _ _ k ⟨t, rfl⟩ ⟨u, rfl⟩
  exact PySem.P.gt_int (ret_growC h k (Grow.refl s) rfl)
theorem O_eq {a b : Int} {K} (h : K (.bool (a == b)) C) : OpC T A C .Eq (.int a) (.int b) K := by
  refine ⟨?_⟩
  rintro s _ _ k ⟨t, rfl⟩ ⟨u, rfl⟩
  exact PySem.P.eq_int (ret_growC h k (Grow.refl s) rfl)
theorem O_ne {a b : Int} {K} (h : K (.bool (a != b)) C) : OpC T A C .NotEq (.int a) (.int b) K := by
  refine ⟨?_⟩
  rintro s _ _ k ⟨t, rfl⟩ ⟨u, rfl⟩
  exact PySem.P.ne_int (ret_growC h k (Grow.refl s) rfl)
theorem O_eqs {a b : Str} {K} (h : K (.bool (a == b)) C) : OpC T A C .Eq (.str a) (.str b) K := by
  refine ⟨?_⟩
  rintro s _ _ k ⟨t, rfl⟩ ⟨u, rfl⟩
  exact PyProof.Rows.eq_str (ret_growC h k (Grow.refl s) rfl)
theorem O_nes {a b : Str} {K} (h : K (.bool (a != b)) C) : OpC T A C .NotEq (.str a) (.str b) K := by
  refine ⟨?_⟩
  rintro s _ _ k ⟨t, rfl⟩ ⟨u, rfl⟩
  exact PyProof.Rows.ne_str (ret_growC h k (Grow.refl s) rfl)
theorem O_ins {a b : Str} {K} (h : K (.bool !(Builtin.Str.occurrences b a 0 b.length 1).isEmpty) C) : OpC T A C .In (.str a) (.str b) K := by
  refine ⟨?_⟩
  rintro s _ _ k ⟨t, rfl⟩ ⟨u, rfl⟩
  exact PySem.P.in_str (ret_growC h k (Grow.refl s) rfl)
/-- an object of the ledger -/
theorem cell_at {s : Shared} {i : Nat} {a : Addr} {c : Cell} (k : Ok T C s) (hi : C[i]? = some (a, c)) : CellAt T s.heap a c := k.cells _ (List.mem_of_getElem? hi)
theorem T_list {i : Nat} {a : Addr} {vs : List V} {K} (hi : C[i]? = some (a, .list vs)) (hn : vs.length ≤ 1000000) (h : K (!vs.isEmpty) C) : OpT T A C (.ref a) K := by
  refine ⟨?_⟩
  rintro s _ k rfl
  obtain ⟨items, n, hl, r⟩ := cell_at k hi
  have hlen := r.length
  rw [Array.length_toList] at hlen
  have he : (!items.isEmpty) = !vs.isEmpty := by
    cases vs with
    | nil => have : items = #[] := Array.eq_empty_of_size_eq_zero (by simpa using hlen); subst this; rfl
    | cons v vs => have : items.size ≠ 0 := by simp at hlen; omega
                   simp [Array.isEmpty, this]
  refine wpAny_truthy_list hl.isList (by omega) ?_
  rw [he]
  exact ⟨_, _, h, rfl, (k.grow (Grow.tok s _)).1, (k.grow (Grow.tok s _)).2⟩
end

section
variable {T : TI} {A : Around} {C : Cs} {value slice : Expr}
/-- an item of a list -/
theorem O_item {i : Nat} {a : Addr} {vs : List V} {n : Int} {v : V} {K} (hi : C[i]? = some (a, .list vs)) (h0 : 0 ≤ n) (hfit : n < 2 ^ 63) (hv : vs[n.toNat]? = some v) (h : K v C)
    (hs : ∀ o i, subscripted slice false o i = operate [o, i] (getItem o i) := by intro _ _; rfl) : OpS T A C value slice (.ref a) (.int n) K := by
  refine ⟨?_⟩
  rintro s _ _ k rfl ⟨u, rfl⟩
  obtain ⟨items, nn, hl, r⟩ := cell_at k hi
  obtain ⟨x, hx, rx⟩ := r.get hv
  exact tail_any hl.isList.typeIs slot_list_getitem.lookup (wpAny_getItem_list hl.isList h0 hfit (by simpa using hx) (ret_growC h k (Grow.refl s) rx)) (hs _ _)
end
section
variable {T : TI} {A : Around} {env : Env} {ℓ : Lo} {H : Cs}
theorem Ev_sub {value slice : Expr} {pos : Pos} {K}
    (h : Ev T A env ℓ H value fun v H₁ => Ev T A env ℓ H₁ slice fun w H₂ => OpS T A (lc env ℓ :: H₂) value slice v w (inH env ℓ K)) : Ev T A env ℓ H (.Subscript value slice pos) K := by
  refine ⟨fun s k => ?_⟩
  refine Subscript_ (wpAny_mono (h.run s k) ?_ fun _ _ e => e)
  refine fun x s₁ p₀ => p₀.inE fun v H₁ hK r₁ k₁ g₁ => ?_
  refine wpAny_mono (hK.run s₁ k₁) ?_ fun _ _ e => e
  refine fun y s₂ p₀ => p₀.inE fun w H₂ hK₂ r₂ k₂ g₂ => ?_
  exact wp_trans (g₁.trans g₂) (hK₂.run s₂ x y k₂ (r₁.keep (g₂.tup k₁)) r₂)

theorem setItem_exact {prog : Program} {w : World} {A : Around} {E : Value → Shared → Prop} {s : Shared} {l : Addr} {items : Array Value} {n : Nat} {k : Int} {t : Tok} {v : Value} {Q : Unit → Shared → Prop} (hl : IsL s.heap l items n)
    (h0 : 0 ≤ k) (hfit : k < 2 ^ 63) (hn : k < items.size)
    (hQ : Q () { s with heap := s.heap.update l (Obj.mapSeq (·.setIfInBounds k.toNat v)) }) : wpAny (model prog w) A (setItem (.ref l) (.int k t) v) Q E s := by
  unfold setItem
  try with_reducible refine wpAny_holding ?_
  first | refine wpAny_bind (wpAny_pure ?_) | skip
  refine wpAny_bind (wpAny_sequenceKey hl.isList.typeIs (by decide) ?_)
  refine wpAny_bind (wpAny_callSpecial?_slot (name := Str.ofString "__setitem__") hl.isList.typeIs slot_list_setitem (wpAny_call_entry slot_list_setitem hl.isList.typeIs entry_list_setitem ?_ (args_list_setitem _ _ _)))
  show wpAny _ _ (Builtin.List.listSubscript? (.int k t) >>= _) _ _ s
  refine wpAny_bind (wpAny_listSubscript_int (fitsIndex_of h0 hfit) ?_)
  clear hfit
  obtain ⟨j, rfl⟩ := Int.eq_ofNat_of_zero_le h0
  have hj : j < items.size := by omega
  have hx' : items[j]? = some items[j] := Array.getElem?_eq_getElem hj
  show wpAny _ _ ((seqItemAt l j >>= fun r => pure (r.map (j, ·))) >>= _) _ _ s
  refine wpAny_bind (wpAny_bind (wpAny_seqItemAt hl rfl (wpAny_pure ?_)))
  rw [hx']
  show wpAny _ _ (setSeqItemAt l j v >>= _) _ _ s
  refine wpAny_bind (wpAny_setSeqItemAt hl rfl ?_)
  first
    | exact wpAny_bind (wpAny_pure (wpAny_pure ⟨.none, rfl, wpAny_pure hQ⟩))
    | exact wpAny_pure ⟨.none, rfl, wpAny_pure hQ⟩

/-- a list of the ledger turned in place -/
theorem list_upd {C : Cs} {s : Shared} {i : Nat} {a : Addr} {vs vs' : List V} {items : Array Value} {n : Nat} {f : Array Value → Array Value} {t : Nat} (k : Ok T C s) (hi : C[i]? = some (a, .list vs)) (hl : IsL s.heap a items n)
    (r : TupKeep s.heap (s.heap.update a (Obj.mapSeq f)) → RelL (s.heap.update a (Obj.mapSeq f)) vs' (f items).toList) :
    Ok T (C.set i (a, .list vs')) { s with heap := s.heap.update a (Obj.mapSeq f), toks := t } ∧ Go C s.heap (C.set i (a, .list vs')) (s.heap.update a (Obj.mapSeq f)) := by
  have hs : Heap.SameBut a s.heap (s.heap.update a (Obj.mapSeq f)) := Heap.SameBut.update ..
  exact k.upd (s' := { s with heap := s.heap.update a (Obj.mapSeq f), toks := t }) hi (fun b o e hb => (hs.2 b fun z => hb (z ▸ .head _)).trans e) (fun tk => ⟨f items, _, IsL.update hl f, r tk⟩) rfl rfl rfl

/-- xs[i] = v -/
theorem Ex_setitem {o i : Expr} {pos' pos : Pos} {e : Expr} {K}
    (h : Ev T A env ℓ H e fun v H₁ => Ev T A env ℓ H₁ o fun w H₂ => Ev T A env ℓ H₂ i fun x H₃ => ∃ a j vs n, w = .ref a ∧ x = .int n ∧ H₃[j]? = some (a, .list vs) ∧ 0 ≤ n ∧ n < vs.length ∧ vs.length ≤ 1000000 ∧ K .next ℓ (H₃.set j (a, .list (vs.set n.toNat v))))
    (hs : swapsWith e (some (.Subscript o i pos')) pos.line env = pure false := by rfl) : Ex T A env ℓ H (.Assign [.Subscript o i pos'] e pos) K := by
  refine ⟨fun s k => ?_⟩
  refine wpAny_Assign_Subscript (wpAny_mono (h.run s k) ?_ fun _ _ e => e) hs
  refine fun y s₁ p₀ => p₀.inE fun v H₁ hK r₁ k₁ g₁ => ?_
  refine wpAny_mono (hK.run s₁ k₁) ?_ fun _ _ e => e
  refine fun _ s₂ p₀ => p₀.inE fun w H₂ hK₂ r₂ k₂ g₂ => ?_
  refine wpAny_mono (hK₂.run s₂ k₂) ?_ fun _ _ e => e
  refine fun _ s₃ p₀ => p₀.inE fun x H₃ hh₀ rr₀ k₃ g₃ => ?_
  obtain ⟨a, j, vs, n, rfl, rfl, hj, h0, hlt, hn, hK₃⟩ := hh₀
  obtain ⟨u, rfl⟩ := rr₀
  cases r₂
  have hi : (lc env ℓ :: H₃)[j + 1]? = some (a, .list vs) := by simpa using hj
  obtain ⟨items, nn, hl, r⟩ := cell_at k₃ hi
  have hlen := r.length
  rw [Array.length_toList] at hlen
  have ry : Rel s₃.heap v y := (r₁.keep (g₂.tup k₁)).keep (g₃.tup k₂)
  refine setItem_exact hl h0 (by omega) (by omega) ?_
  obtain ⟨k₄, g₄⟩ := list_upd (vs' := vs.set n.toNat v) (f := (·.setIfInBounds n.toNat y)) (t := s₃.toks) k₃ hi hl (fun tk => by simpa using (r.keep tk).set (ry.keep tk))
  exact PostG.stI (v := .next) hK₃ rfl k₄ (((g₁.trans g₂).trans g₃).trans g₄)
end
end Mine
end
section
open PySem PySem.Spec PySem.Calls PyProof.Rows PySem.P
namespace Mine
section
variable {T : TI} {A : Around} {env : Env} {ℓ : Lo} {H : Cs}
/-- a while loop under way -/
structure Wh (T : TI) (A : Around) (env : Env) (ℓ : Lo) (H : Cs) (test : Expr) (body orelse : List Stmt) (K : Fl → Lo → Cs → Prop) : Prop where
  run : ∀ s, Ok T (lc env ℓ :: H) s → codeAny (Mo T) A (.whileLoop test body orelse env) (fun r s' => ∃ f, r = .ok f ∧ PostG T (lc env ℓ :: H) s.heap RelF (fun f C' => ∃ ℓ' H', C' = lc env ℓ' :: H' ∧ K f ℓ' H') f s') s
noncomputable def whK (T : TI) (A : Around) (env : Env) (test : Expr) (body orelse : List Stmt) (K : Fl → Lo → Cs → Prop) : Fl → Lo → Cs → Prop
  | .next, ℓ, H => Wh T A env ℓ H test body orelse K
  | .cont, ℓ, H => Wh T A env ℓ H test body orelse K
  | .brk, ℓ, H => K .next ℓ H
  | .ret v, ℓ, H => K (.ret v) ℓ H
theorem Wh_step {test : Expr} {body orelse : List Stmt} {K}
    (h : Tr T A env ℓ H test fun b H₁ => if b then Exs T A env ℓ H₁ body (whK T A env test body orelse K) else Exs T A env ℓ H₁ orelse K) : Wh T A env ℓ H test body orelse K := by
  refine ⟨fun s k => ?_⟩
  refine codeAny_of_tree ?_
  show wpAny _ A ((whileTurn test body orelse env).onRaise (fun x => do noteFrame x env; theTreesLotGoes x)) _ _ s
  refine wpAny_noted (wpAny_mono (E := NoE) ?_ (fun _ _ q => q) fun _ _ e => e.elim)
  simp only [whileTurn]
  refine wpAny_bind (wpAny_mono (h.run s k) ?_ fun _ _ e => e)
  refine fun b s₁ p₀ => p₀.inE fun b' H₁ hK rr₀ k₁ g₁ => ?_
  obtain rfl := rr₀
  cases b with
  | false =>
    refine wpAny_bind (wpAny_mono (hK.run s₁ k₁) ?_ fun _ _ e => e)
    intro f s₂ p
    exact wpAny_pure ⟨f, rfl, p.trans g₁⟩
  | true =>
    refine wpAny_bind (wpAny_mono (hK.run s₁ k₁) ?_ fun _ _ e => e)
    refine fun f s₂ p₀ => p₀.stE fun fl ℓ₂ H₂ hK₂ r₂ k₂ g₂ => ?_
    cases fl with
    | next =>
      cases r₂
      exact wpAny_pure ⟨rfl, codeAny_mono (hK₂.run s₂ k₂) fun r s' ⟨f, e, p⟩ => ⟨f, e, (p.trans g₂).trans g₁⟩⟩
    | cont =>
      cases r₂
      exact wpAny_pure ⟨rfl, codeAny_mono (hK₂.run s₂ k₂) fun r s' ⟨f, e, p⟩ => ⟨f, e, (p.trans g₂).trans g₁⟩⟩
    | brk => cases r₂; exact wpAny_pure ⟨_, rfl, .next, _, ⟨ℓ₂, H₂, rfl, hK₂⟩, rfl, k₂, g₁.trans g₂⟩
    | ret v => obtain ⟨x, rfl, r⟩ := r₂; exact wpAny_pure ⟨_, rfl, .ret v, _, ⟨ℓ₂, H₂, rfl, hK₂⟩, ⟨x, rfl, r⟩, k₂, g₁.trans g₂⟩
theorem Ex_while {test : Expr} {body orelse : List Stmt} {pos : Pos} {K} (h : Wh T A env ℓ H test body orelse K) : Ex T A env ℓ H (.While test body orelse pos) K := ⟨fun s k =>
  wpAny_While (codeAny_mono (h.run s k) fun r s' ⟨f, e, p⟩ => by subst e; exact p)⟩
/-- a call -/
structure Call (T : TI) (A : Around) (C : Cs) (f : Value) (vs : List V) (K : V → Cs → Prop) : Prop where
  run : ∀ s xs, Ok T C s → RelL s.heap vs xs → wpAny (Mo T) A (call f xs) (PostG T C s.heap Rel K) NoE s
theorem Call.frame {C C₀ Fr : Cs} {f : Value} {vs : List V} {K} (w : Call T A C f vs K) (p : C₀.Perm (C ++ Fr)) : Call T A C₀ f vs (fun v C'' => ∃ C', K v C' ∧ C'' = C' ++ Fr) := ⟨fun s xs k r =>
  wpAny_mono (w.run s xs (k.perm p).left r) (fun x s' q => by
    obtain ⟨v, C', hK, r, k', g'⟩ := q
    obtain ⟨k₃, g₃⟩ := (k.perm p).frame k' g'
    exact ⟨v, _, ⟨C', hK, rfl⟩, r, k₃, g₃.permL p.symm⟩) fun _ _ e => e⟩
/-- a call, by its code -/
structure CallC (T : TI) (A : Around) (C : Cs) (f : Value) (vs : List V) (K : V → Cs → Prop) : Prop where
  run : ∀ s xs, Ok T C s → RelL s.heap vs xs → codeAny (Mo T) A (.call f ⟨xs, []⟩) (fun r s' => ∃ x, r = .ok (.ret x) ∧ PostG T C s.heap Rel K x s') s
theorem CallC.call {C : Cs} {f : Value} {vs : List V} {K} (h : CallC T A C f vs K) : Call T A C f vs K :=
  ⟨fun s xs k r => wpAny_call (codeAny_mono (h.run s xs k r) fun r s' ⟨x, e, p⟩ => by subst e; exact p)⟩
/-- a callee that knows but one thing of the ledger -/
theorem Call.at {C : Cs} {i : Nat} {a : Addr} {c : Cell} {f : Value} {vs : List V} {K K'} (w : Call T A [(a, c)] f vs K) (hi : C[i]? = some (a, c)) (hk : ∀ v C', K v C' → ∃ c', C' = [(a, c')] ∧ K' v (C.set i (a, c'))) : Call T A C f vs K' := by
  refine ⟨fun s xs k r => ?_⟩
  obtain ⟨p, _⟩ := set_perm (y := (a, c)) hi
  refine wpAny_mono ((w.frame p).run s xs k r) (fun x s' q => ?_) fun _ _ e => e
  obtain ⟨v, _, ⟨C', hK, rfl⟩, r, k', g'⟩ := q
  obtain ⟨c', rfl, hK'⟩ := hk v C' hK
  obtain ⟨_, p'⟩ := set_perm (y := (a, c')) hi
  exact ⟨v, _, hK', r, k'.perm p', g'.permR p'⟩
noncomputable def Callee (T : TI) (C : Cs) (f : Value) : Prop :=
  (∃ id, f = .builtin id) ∨ (∃ n, f = .type n) ∨ ∃ a, f = .ref a ∧ ∀ s, Ok T C s → ∃ k, (k = Keeper.frame ∨ k = Keeper.machine ∨ k = Keeper.boundFrame) ∧ PySem.W.Looks (Mo T) s.heap (keeperOf (.ref a)) k
theorem keeper_fn {M : Model} {h : Heap} {a : Addr} {o : Obj} {fd : FuncData} (ho : h.get? a = some o) (hd : o.data = .func fd) : PySem.W.Looks M h (keeperOf (.ref a)) Keeper.frame := fun A Q E s k q => by
  unfold keeperOf
  refine wpAny_bind (wpAny_load (k _ _ ho) ?_)
  rw [hd]; exact wpAny_pure q
theorem evalArgs_any {M : Model} {E : Value → Shared → Prop} {s : Shared} {f : Value} {trees : List (Bool × Sem Value)} {Q : Args → Shared → Prop} (hp : trees.any (·.1) = false) (h : wpAny M A (spliced trees) (fun vs s' => Q ⟨vs, []⟩ s') E s) :
    wpAny M A (evalArgs f true trees []) Q E s := by
  cases trees with
  | nil =>
    unfold evalArgs
    show wpAny M A (spliced [] >>= _) Q E s
    refine wpAny_bind (wpAny_mono h (fun vs s' h' => wpAny_bind (wpAny_pure ?_)) fun _ _ e => e)
    refine wpAny_holding ?_
    exact wpAny_bind (wpAny_pure (wpAny_bind (wpAny_pure (wpAny_pure h'))))
  | cons t rest =>
    obtain ⟨b, x⟩ := t
    cases b with
    | true => simp at hp
    | false => exact evalArgs_plain h
theorem callWith_ok {f : Value} {first : List Value} {fv : List V} {pos : Pos} {args : List Expr} {K} {s : Shared} (k : Ok T (lc env ℓ :: H) s) (r : RelL s.heap fv first)
    (h : Evs T A env ℓ H pos args fun vs H₁ => Callee T (lc env ℓ :: H₁) f ∧ Call T A (lc env ℓ :: H₁) f (fv ++ vs) (inH env ℓ K))
    (hf : (∃ id, f = .builtin id) ∨ (∃ n, f = .type n) ∨ ∃ a, f = .ref a) (hp : (backTo pos (starEach args env)).any (·.1) = false) : wpAny (Mo T) A (callWith pos f first (backTo pos (starEach args env)) []) (PostG T (lc env ℓ :: H) s.heap Rel (inH env ℓ K)) NoE s := by
  have key : ∀ xs s₁, PostG T (lc env ℓ :: H) s.heap RelL (fun v C' => ∃ H', C' = lc env ℓ :: H' ∧ (Callee T (lc env ℓ :: H') f ∧ Call T A (lc env ℓ :: H') f (fv ++ v) (inH env ℓ K))) xs s₁ →
      (∃ C', Callee T C' f ∧ Ok T C' s₁) ∧ wpAny (Mo T) A (call f (first ++ xs)) (PostG T (lc env ℓ :: H) s.heap Rel (inH env ℓ K)) NoE s₁ := by
    refine fun xs s₁ p₀ => p₀.inE fun vs H₁ hh₀ r₁ k₁ g₁ => ?_
    obtain ⟨hc, hK⟩ := hh₀
    exact ⟨⟨_, hc, k₁⟩, wp_trans g₁ (hK.run s₁ _ k₁ ((r.keep (g₁.tup k)).append r₁))⟩
  have w := wpAny_mono (h.run s k) key fun _ _ e => e
  rcases hf with ⟨id, rfl⟩ | ⟨n, rfl⟩ | ⟨a, rfl⟩
  · exact callWith_builtin hp (evalArgs_any hp (wpAny_mono w (fun xs s₁ q => q.2) fun _ _ e => e))
  · exact PyProof.Rows.callWith_type hp (evalArgs_any hp (wpAny_mono w (fun xs s₁ q => q.2) fun _ _ e => e))
  · refine PySem.W.callWith_of (P := fun h => ∃ k, (k = Keeper.frame ∨ k = Keeper.machine ∨ k = Keeper.boundFrame) ∧ PySem.W.Looks (Mo T) h (keeperOf (.ref a)) k) (by rw [hp]; rfl) (fun h q => q) (evalArgs_any hp (wpAny_mono w (fun xs s₁ q => ⟨?_, q.2⟩) fun _ _ e => e))
    obtain ⟨⟨C', hc, k'⟩, _⟩ := q
    rcases hc with ⟨id, e⟩ | ⟨n, e⟩ | ⟨a', e, hh⟩
    · cases e
    · cases e
    · cases e; exact hh s₁ k'
/-- f(..): f a name of the text or a built-in -/
noncomputable def FV : V → Value → Prop
  | .bi i, f => f = .builtin i
  | .ty n, f => f = .type n
  | .ref a, f => f = .ref a
  | _, _ => False
theorem FV.kind {v : V} {f : Value} (h : FV v f) : (∃ id, f = .builtin id) ∨ (∃ n, f = .type n) ∨ ∃ a, f = .ref a := by
  cases v <;> simp only [FV] at h <;> first | exact .inl ⟨_, h⟩ | exact .inr (.inl ⟨_, h⟩) | exact .inr (.inr ⟨_, h⟩)
theorem FV.eq {v : V} {f x : Value} {hp : Heap} (h : FV v f) (r : Rel hp v x) : x = f := by
  cases v <;> simp only [FV] at h <;> simp only [Rel] at r <;> rw [h, r]
theorem Ev_call {x : Str} {p pos : Pos} {args : List Expr} {K}
    (h : Ev T A env ℓ H (.Name x p) fun v H₁ => ∃ f, FV v f ∧ Evs T A env ℓ H₁ pos args fun vs H₂ => Callee T (lc env ℓ :: H₂) f ∧ Call T A (lc env ℓ :: H₂) f vs (inH env ℓ K))
    (hp : (backTo pos (starEach args env)).any (·.1) = false := by rfl) : Ev T A env ℓ H (.Call (.Name x p) args [] pos) K := by
  refine ⟨fun s k => ?_⟩
  refine PyProof.Rows.Call_Name rfl (wpAny_mono (h.run s k) ?_ fun _ _ e => e)
  refine fun y s₁ p₀ => p₀.inE fun v H₁ hh₀ r₁ k₁ g₁ => ?_
  obtain ⟨f, hf, hK⟩ := hh₀
  cases hf.eq r₁
  exact wp_trans g₁ (callWith_ok (fv := []) k₁ rfl hK hf.kind hp)
/-- the def's own objects of the top -/
structure DefAt (T : TI) (a : Addr) (fd : FuncData) (body : List Stmt) : Prop where
  at' : ∃ o, T.h₁.get? a = some o ∧ o.data = .func fd
  ne : a ≠ T.tb
  lim : cStatics ≠ T.tb ∧ ∃ m, T.h₁.Ns cStatics m ∧ m "sys.recursionlimit" = none
  code : ∃ c o vs t, fd.code = .ref c ∧ c ≠ T.tb ∧ T.h₁.get? c = some o ∧ o.data = .fields vs ∧ vs[1]? = some (.str fd.qualname t)
  body : fd.body = .stmts body
theorem DefAt.callee {a : Addr} {fd : FuncData} {body : List Stmt} (d : DefAt T a fd body) (C : Cs) : Callee T C (.ref a) := .inr (.inr ⟨a, rfl, fun s k => by
  obtain ⟨o, ho, hd⟩ := d.at'
  exact ⟨_, .inl rfl, keeper_fn (k.top _ _ ho d.ne) hd⟩⟩)
theorem lookup_zip_rev {h : Heap} {x : Str} {v : V} : ∀ {names : List Str} {vs : List V} {xs : List Value}, names.Nodup → RelL h vs xs → (names.zip vs).lookup x = some v → ∃ y, (names.zip xs).reverse.lookup x = some y ∧ Rel h v y
  | [], _, _, _, _, e => by simp at e
  | n :: names, [], _, _, _, e => by simp at e
  | n :: names, w :: vs, _, nd, r, e => by
    simp only [RelL] at r
    obtain ⟨y, ys, rfl, a, b⟩ := r
    obtain ⟨nd1, nd2⟩ := List.nodup_cons.mp nd
    rw [List.zip_cons_cons, List.lookup_cons] at e
    rw [List.zip_cons_cons, List.reverse_cons, List.lookup_append]
    by_cases hx : x = n
    · subst hx
      simp at e; subst e
      have : List.lookup x (names.zip ys).reverse = none := by
        rw [List.lookup_eq_none_iff]
        intro p hp
        have := (List.of_mem_zip (List.mem_reverse.mp hp)).1
        simp only [bne_iff_ne, ne_eq, beq_eq_false_iff_ne]
        intro e; exact nd1 (e ▸ this)
      rw [this]
      exact ⟨y, by simp, a⟩
    · have hb : (x == n) = false := beq_eq_false_iff_ne.mpr hx
      rw [hb] at e
      obtain ⟨y', hy', r'⟩ := lookup_zip_rev nd2 b e
      exact ⟨y', by rw [hy']; rfl, r'⟩
noncomputable def retV : Fl → V
  | .ret v => v
  | _ => .none
/-- a def of the text, called by place -/
theorem CallC_def {n : Nat} {C : Cs} {a : Addr} {fd : FuncData} {body : List Stmt} {names : List Str} {vs : List V} {ℓ₀ : Lo} {K} (d : DefAt T a fd body) (rm : Rm A (n + 1))
    (hbind : ∀ xs, xs.length = vs.length → bindArgs fd ⟨xs, []⟩ = pure (names.zip xs)) (hnd : names.Nodup) (hlen : names.length = vs.length)
    (hcell : ∀ x ∈ fd.scope.names, x.2 ≠ .cell) (hloc : ∀ x ∈ names, fd.scope.names.lookup x = some .local)
    (h : ∀ L, Exs T (A.deeper (callEnv fd L a)) (callEnv fd L a) ℓ₀ C body (fun fl _ H' => ∃ H'', H''.Sublist H' ∧ K (retV fl) H'')) (hz : names.zip vs = ℓ₀ := by rfl)
    (hco : fd.scope.isCoroutine = false := by rfl) (hgen : fd.scope.isGenerator = false := by rfl) (hk : fd.scope.kind = .function := by rfl) : CallC T A C (.ref a) vs K := by
  subst hz
  refine ⟨fun s xs k r => ?_⟩
  obtain ⟨o, ho, hd⟩ := d.at'
  have own : ∀ L, ownCells (callEnv fd L a) = [] := fun L => by
    unfold ownCells
    rw [if_neg]
    simp only [Bool.and_eq_true, List.any_eq_true, not_exists, not_and]
    intro _ x hx e
    exact hcell x hx (by simpa using e)
  have hxl := r.length
  have hlim : s.heap.NoLimit := let ⟨ht, m, hm, e⟩ := d.lim; ⟨m, Ns.top k hm ht, e⟩
  have hcd : s.heap.CodeRec fd.code fd.qualname := let ⟨c, o, vs, t, e, hc, ho, r⟩ := d.code; ⟨c, o, vs, t, e, k.top _ _ ho hc, r⟩
  refine (codeAny_call_def rm.lt (k.top _ _ ho d.ne) hd hlim hcd d.body (BindsTo.of_eq (hbind xs hxl)) hcell (fun x hx => hloc x.1 (List.of_mem_zip hx).1) (fun h₀ hns hkp => ?_) hco hgen hk)
  have gr : Grow s { s with heap := h₀, toks := s.toks + (names.zip xs).length } := ⟨hkp, rfl, rfl⟩
  obtain ⟨k₀, g₀⟩ := k.add gr (a := s.heap.objs.size) (c := .loc (callEnv fd s.heap.objs.size a) (names.zip vs))
    ⟨rfl, ⟨_, hns, fun x v hx => by
      obtain ⟨y, hy, ry⟩ := lookup_zip_rev hnd r hx
      have hm : x ∈ names := by
        obtain ⟨p, hp⟩ : ∃ p, p ∈ names.zip vs ∧ p.1 = x := by
          have := mem_of_lookup hx
          exact ⟨_, this, rfl⟩
        exact hp.2 ▸ (List.of_mem_zip hp.1).1
      exact .inl ⟨hloc x hm, y, hy, ry.keep gr.tup⟩⟩, fun c hc => by rw [own] at hc; cases hc⟩
    (fun b hb => by
      simp only [foot, own, List.mem_cons, List.not_mem_nil, or_false] at hb
      subst hb; exact get?_end _) (by simp [foot, own])
  refine wpAny_mono ((h s.heap.objs.size).run _ k₀) ?_ fun _ _ e => e.elim
  refine fun f s' p₀ => p₀.stE fun fl ℓ' H' hh₀ rf k' g' => ?_
  obtain ⟨H'', hs, hK⟩ := hh₀
  obtain ⟨k₂, g₂⟩ := k'.drop (C' := H'') (hs.trans (List.sublist_cons_self _ _))
  refine ⟨_, rfl, retV fl, H'', hK, ?_, k₂, (g₀.trans g').trans g₂⟩
  cases fl with
  | next => cases rf; rfl
  | brk => cases rf; rfl
  | cont => cases rf; rfl
  | ret v => obtain ⟨x, rfl, rx⟩ := rf; exact rx
theorem Call_def {n : Nat} {C : Cs} {a : Addr} {fd : FuncData} {body : List Stmt} {names : List Str} {vs : List V} {ℓ₀ : Lo} {K} (d : DefAt T a fd body) (rm : Rm A (n + 1))
    (hbind : ∀ xs, xs.length = vs.length → bindArgs fd ⟨xs, []⟩ = pure (names.zip xs)) (hnd : names.Nodup) (hlen : names.length = vs.length)
    (hcell : ∀ x ∈ fd.scope.names, x.2 ≠ .cell) (hloc : ∀ x ∈ names, fd.scope.names.lookup x = some .local)
    (h : ∀ L, Exs T (A.deeper (callEnv fd L a)) (callEnv fd L a) ℓ₀ C body (fun fl _ H' => ∃ H'', H''.Sublist H' ∧ K (retV fl) H'')) (hz : names.zip vs = ℓ₀ := by rfl)
    (hco : fd.scope.isCoroutine = false := by rfl) (hgen : fd.scope.isGenerator = false := by rfl) (hk : fd.scope.kind = .function := by rfl) : Call T A C (.ref a) vs K :=
  (CallC_def d rm hbind hnd hlen hcell hloc h hz hco hgen hk).call
end
end Mine
end
section
open PySem PySem.Spec PySem.Calls PyProof.Rows PySem.P
namespace Mine
section
variable {T : TI} {A : Around} {env : Env} {ℓ : Lo} {H : Cs}
theorem RelL.cons_inv {h : Heap} {v : V} {vs : List V} {xs : List Value} (r : RelL h (v :: vs) xs) : ∃ x ys, xs = x :: ys ∧ Rel h v x ∧ RelL h vs ys := by simpa only [RelL] using r
theorem RelL.nil_inv {h : Heap} {xs : List Value} (r : RelL h [] xs) : xs = [] := by simpa only [RelL] using r
theorem Call_len {C : Cs} {i : Nat} {a : Addr} {vs : List V} {K} (hi : C[i]? = some (a, .list vs)) (hn : vs.length ≤ 1000000) (h : K (.int vs.length) C) : Call T A C (.builtin "len") [.ref a] K := by
  refine ⟨fun s xs k r => ?_⟩
  obtain ⟨x, ys, rfl, rx, r⟩ := r.cons_inv
  cases r.nil_inv
  cases rx
  obtain ⟨items, n, hl, r⟩ := cell_at k hi
  have hlen := r.length
  rw [Array.length_toList] at hlen
  refine call_len_list hl.isList (by omega) ?_
  rw [hlen]
  exact ret_growC (v := .int vs.length) h k (Grow.tok s _) ⟨_, rfl⟩
/-- how a method is found -/
noncomputable def GM (T : TI) (C : Cs) (v : V) (name : Str) (f : Value) : Prop :=
  ∀ (A : Around) (pl : Sem Bool) (s : Shared) (x : Value) (Q : Value × List Value → Shared → Prop), Ok T C s → Rel s.heap v x → (∀ s', Grow s s' → Q (f, [x]) s') → wpAny (Mo T) A (getMethod x name pl) Q NoE s
/-- a name of the object itself that is called -/
noncomputable def GA (T : TI) (C : Cs) (v : V) (name : Str) (f : Value) : Prop :=
  ∀ (A : Around) (pl : Sem Bool) (s : Shared) (x : Value) (Q : Value × List Value → Shared → Prop), Ok T C s → Rel s.heap v x → (∀ s', Grow s s' → Q (f, []) s') → wpAny (Mo T) A (getMethod x name pl) Q NoE s
theorem Ev_method {o : Expr} {name : Str} {apos pos : Pos} {args : List Expr} {pl : Sem Bool} {K}
    (h : Ev T A env ℓ H o fun v H₁ => ∃ f, GM T (lc env ℓ :: H₁) v name f ∧ ((∃ id, f = .builtin id) ∨ (∃ n, f = .type n) ∨ ∃ a, f = .ref a) ∧ Evs T A env ℓ H₁ pos args fun vs H₂ => Callee T (lc env ℓ :: H₂) f ∧ Call T A (lc env ℓ :: H₂) f (v :: vs) (inH env ℓ K))
    (he : eval (.Call (.Attribute o name apos) args [] pos) env = (do
      let ov ← eval o env
      standAt apos.atName
      let (f, first) ← holding [ov] (getMethod ov name pl)
      callWith pos f first (backTo pos (starEach args env)) (backToKw pos (keywordEach [] env))) := by rfl)
    (hp : (backTo pos (starEach args env)).any (·.1) = false := by rfl) : Ev T A env ℓ H (.Call (.Attribute o name apos) args [] pos) K := by
  refine ⟨fun s k => ?_⟩
  refine PySem.W.methodCall_KW (pl := pl) (wpAny_mono (h.run s k) ?_ fun _ _ e => e) he
  refine fun x s₁ p₀ => p₀.inE fun v H₁ hh₀ r₁ k₁ g₁ => ?_
  obtain ⟨f, hg, hf, hK⟩ := hh₀
  refine hg A pl s₁ x _ k₁ r₁ fun s₂ gr => ?_
  obtain ⟨k₂, g₂⟩ := k₁.grow gr
  exact wp_trans (g₁.trans g₂) (callWith_ok (fv := [v]) k₂ (RelL.one (r₁.keep gr.tup)) hK hf hp)
theorem Ev_attrcall {o : Expr} {name : Str} {apos pos : Pos} {args : List Expr} {pl : Sem Bool} {K}
    (h : Ev T A env ℓ H o fun v H₁ => ∃ f, GA T (lc env ℓ :: H₁) v name f ∧ ((∃ id, f = .builtin id) ∨ (∃ n, f = .type n) ∨ ∃ a, f = .ref a) ∧ Evs T A env ℓ H₁ pos args fun vs H₂ => Callee T (lc env ℓ :: H₂) f ∧ Call T A (lc env ℓ :: H₂) f vs (inH env ℓ K))
    (he : eval (.Call (.Attribute o name apos) args [] pos) env = (do
      let ov ← eval o env
      standAt apos.atName
      let (f, first) ← holding [ov] (getMethod ov name pl)
      callWith pos f first (backTo pos (starEach args env)) (backToKw pos (keywordEach [] env))) := by rfl)
    (hp : (backTo pos (starEach args env)).any (·.1) = false := by rfl) : Ev T A env ℓ H (.Call (.Attribute o name apos) args [] pos) K := by
  refine ⟨fun s k => ?_⟩
  refine PySem.W.methodCall_KW (pl := pl) (wpAny_mono (h.run s k) ?_ fun _ _ e => e) he
  refine fun x s₁ p₀ => p₀.inE fun v H₁ hh₀ r₁ k₁ g₁ => ?_
  obtain ⟨f, hg, hf, hK⟩ := hh₀
  refine hg A pl s₁ x _ k₁ r₁ fun s₂ gr => ?_
  obtain ⟨k₂, g₂⟩ := k₁.grow gr
  exact wp_trans (g₁.trans g₂) (callWith_ok (fv := []) k₂ rfl hK hf hp)
theorem GM_list {C : Cs} {i : Nat} {a : Addr} {vs : List V} {name : Str} {id : String} (hi : C[i]? = some (a, .list vs)) (slot : Slot "list" name id) (hty : typeOf (.builtin id) = pure (.type "method_descriptor")) : GM T C (.ref a) name (.builtin id) := by
  rintro A pl s _ Q k rfl h
  obtain ⟨items, n, hl, r⟩ := cell_at k hi
  exact getMethod_builtin (T := "list") ⟨_, hl, rfl⟩ F.plainAttrs_list slot hty (fun b e => by cases e; exact ⟨_, hl, rfl⟩) (h s (Grow.refl s))
theorem GM_str {C : Cs} {x : Str} {name : Str} {id : String} (slot : Slot "str" name id) (hty : typeOf (.builtin id) = pure (.type "method_descriptor")) : GM T C (.str x) name (.builtin id) := by
  rintro A pl s _ Q k ⟨t, rfl⟩ h
  exact getMethod_builtin (T := "str") (typeIs_str _ _ _) F.plainAttrs_str slot hty (fun b e => by cases e) (h s (Grow.refl s))
/-- xs.append(v) -/
theorem Call_append {C : Cs} {i : Nat} {a : Addr} {vs : List V} {v : V} {K} (hi : C[i]? = some (a, .list vs)) (hn : vs.length ≤ 1000000) (h : K .none (C.set i (a, .list (vs ++ [v])))) : Call T A C (.builtin "list.append") [.ref a, v] K := by
  refine ⟨fun s xs k r => ?_⟩
  obtain ⟨x, ys, rfl, rx, r⟩ := r.cons_inv
  obtain ⟨y, zs, rfl, ry, r⟩ := r.cons_inv
  cases r.nil_inv
  cases rx
  obtain ⟨items, n, hl, r⟩ := cell_at k hi
  have hlen := r.length
  rw [Array.length_toList] at hlen
  refine call_meets F.slot_list_append ⟨_, hl, rfl⟩ F.entry_list_append (F.args_list_append_2 _ _) (PySem.list_append a items n y (by rw [sizeLine_eq]; omega)) ⟨hl, ?_⟩
  obtain ⟨k₂, g₂⟩ := list_upd (vs' := vs ++ [v]) (f := fun xs => xs.push y) (t := s.toks) k hi hl (fun tk => by simpa using (r.keep tk).append (RelL.one (ry.keep tk)))
  exact ⟨.none, _, h, rfl, k₂, g₂⟩
/-- xs.pop() -/
theorem Call_pop {C : Cs} {i : Nat} {a : Addr} {vs : List V} {v : V} {K} (hi : C[i]? = some (a, .list (vs ++ [v]))) (hn : vs.length ≤ 1000000) (h : K v (C.set i (a, .list vs))) : Call T A C (.builtin "list.pop") [.ref a] K := by
  refine ⟨fun s xs k r => ?_⟩
  obtain ⟨x, ys, rfl, rx, r⟩ := r.cons_inv
  cases r.nil_inv
  cases rx
  obtain ⟨items, n, hl, r⟩ := cell_at k hi
  have hlen := r.length
  rw [Array.length_toList] at hlen
  simp only [List.length_append, List.length_cons, List.length_nil] at hlen
  obtain ⟨y, hy, ry⟩ := r.get (n := vs.length) (v := v) (by simp)
  refine call_meets F.slot_list_pop ⟨_, hl, rfl⟩ F.entry_list_pop (F.args_list_pop_1 _) (MeetsSeq.list_pop_last a items n y (by rw [show items.size - 1 = vs.length by omega]; simpa using hy) (by rw [sizeLine_eq]; omega)) ⟨hl, ?_⟩
  obtain ⟨k₂, g₂⟩ := list_upd (vs' := vs) (f := fun xs => xs.eraseIdxIfInBounds (items.size - 1)) (t := s.toks) k hi hl (fun tk => by
    have q := (r.keep tk).take vs.length
    rw [List.take_left] at q
    have e : (items.eraseIdxIfInBounds (items.size - 1)).toList = items.toList.take vs.length := by
      have : items.size - 1 < items.size := by omega
      simp only [Array.eraseIdxIfInBounds, this, dif_pos, Array.toList_eraseIdx]
      rw [show items.size - 1 = vs.length by omega, List.eraseIdx_eq_take_drop_succ, List.drop_eq_nil_of_le (by simp; omega), List.append_nil]
    rw [e]; exact q)
  exact ⟨v, _, h, ry.keep (g₂.tup k), k₂, g₂⟩
end
end Mine
end
section
open PySem PySem.Spec PySem.Calls PyProof.Rows PySem.P
namespace Mine
theorem lk_hit {x : Str} {v : V} {ℓ : Lo} : List.lookup x ((x, v) :: ℓ) = some v := by simp
theorem lk_miss {x y : Str} {v w : V} {ℓ : Lo} (hne : (x == y) = false) (h : List.lookup x ℓ = some v) : List.lookup x ((y, w) :: ℓ) = some v := by rw [List.lookup_cons, hne]; exact h
noncomputable def Sub (ℓ' ℓ : Lo) : Prop := ∀ x v, ℓ'.lookup x = some v → ℓ.lookup x = some v
theorem Sub_nil {ℓ : Lo} : Sub [] ℓ := fun x v h => by simp at h
theorem Sub_cons {ℓ' ℓ : Lo} {x : Str} {v : V} (h : Sub ℓ' ℓ) : Sub ((x, v) :: ℓ') ((x, v) :: ℓ) := fun y w e => by
  rw [List.lookup_cons] at e ⊢
  cases hb : y == x with
  | true => rw [hb] at e; exact e
  | false => rw [hb] at e; exact h y w e
section
variable {T : TI} {A : Around} {env : Env} {ℓ ℓ' : Lo} {H : Cs}
theorem Ok.forget {s : Shared} (k : Ok T (lc env ℓ :: H) s) (hs : Sub ℓ' ℓ) : Ok T (lc env ℓ' :: H) s ∧ Go (lc env ℓ :: H) s.heap (lc env ℓ' :: H) s.heap := by
  obtain ⟨e, ⟨m, hn, hv⟩, hc⟩ := loc_of k
  exact k.upd (i := 0) (c' := .loc env ℓ') rfl (fun b o e _ => e) (fun _ => ⟨e, ⟨m, hn, fun x v hx => hv x v (hs x v hx)⟩, hc⟩) rfl rfl rfl
theorem Wh.forget {test : Expr} {body orelse : List Stmt} {K} (hs : Sub ℓ' ℓ) (h : Wh T A env ℓ' H test body orelse K) : Wh T A env ℓ H test body orelse K := by
  refine ⟨fun s k => ?_⟩
  obtain ⟨k', g'⟩ := k.forget hs
  exact codeAny_mono (h.run s k') fun r s' ⟨f, e, p⟩ => ⟨f, e, p.trans g'⟩
theorem Exs.forget {sts : List Stmt} {K} (hs : Sub ℓ' ℓ) (h : Exs T A env ℓ' H sts K) : Exs T A env ℓ H sts K := by
  refine ⟨fun s k => ?_⟩
  obtain ⟨k', g'⟩ := k.forget hs
  exact wp_trans g' (h.run s k')
theorem Exs.drop {H' : Cs} {sts : List Stmt} {K} (hs : H'.Sublist H) (h : Exs T A env ℓ H' sts K) : Exs T A env ℓ H sts K := by
  refine ⟨fun s k => ?_⟩
  obtain ⟨k', g'⟩ := k.drop (C' := lc env ℓ :: H') (hs.cons_cons _)
  exact wp_trans g' (h.run s k')
/-- the names of a frame -/
theorem sb {b : Bool} {P Q : Prop} (h1 : b = true → P) (h2 : b = false → Q) : if b = true then P else Q := by
  cases b with
  | true => exact h1 rfl
  | false => exact h2 rfl
theorem sbT {P Q : Prop} (h : P) : if true = true then P else Q := h
theorem sbF {P Q : Prop} (h : Q) : if false = true then P else Q := h
end
noncomputable def fdB : Stmt → List Stmt
  | .FunctionDef _ _ body _ _ _ _ _ _ _ => body
  | _ => []
noncomputable def fdOf (q : Str) (pm cd : Value) : Stmt → FuncData
  | .FunctionDef name args body _ _ _ scope _ _ _ => { name, qualname := q, params := args, body := .stmts body, scope, globals := mainGlobals, closure := [], defaults := .none, kwdefaults := .none, doc := .none, pyModule := pm, code := cd, builtins := builtinsNs }
  | _ => default
noncomputable def stAt (p : Program) (i : Nat) : Stmt := p.main.body.getD i (.Pass ⟨0, 0, 0, 0⟩)
end Mine
namespace Mine
theorem exu {x : Str} {v : V} {ℓ ℓ' : Lo} {K : Lo → Prop} (u : Upd x v ℓ ℓ') (h : K ℓ') : ∃ ℓ', Upd x v ℓ ℓ' ∧ K ℓ' := ⟨ℓ', u, h⟩
end Mine
namespace Mine
theorem rsh1 {p : Nat} (h : 0 < p) : ((p : Int) - 1).fdiv (2 ^ (1 : Int).toNat) = (((p - 1) / 2 : Nat) : Int) := by
  rw [fdiv_two]; omega
end Mine
namespace Mine
theorem Wh_ind {T : TI} {A : Around} {env : Env} {test : Expr} {body orelse : List Stmt} {K} {ι : Type} (I : ι → Lo → Cs → Prop) (m : ι → Nat)
    (step : ∀ i ℓ H, I i ℓ H → (∀ j ℓ' H', m j < m i → I j ℓ' H' → Wh T A env ℓ' H' test body orelse K) → Wh T A env ℓ H test body orelse K) (i : ι) {ℓ : Lo} {H : Cs} (h : I i ℓ H) : Wh T A env ℓ H test body orelse K := by
  have key : ∀ n i ℓ H, m i = n → I i ℓ H → Wh T A env ℓ H test body orelse K := by
    intro n
    induction n using Nat.strongRecOn with
    | ind n ih =>
      intro i ℓ H hn hI
      exact step i ℓ H hI fun j ℓ' H' hj hI' => ih (m j) (hn ▸ hj) j ℓ' H' rfl hI'
  exact key _ i ℓ H rfl h
end Mine
end
section
open PySem PySem.Spec PySem.Calls PyProof.Rows PySem.P
namespace Mine
theorem Ok.lose {T : TI} {C : Cs} {s s' : Shared} {i : Nat} {a : Addr} {c : Cell} (k : Ok T C s) (hi : C[i]? = some (a, c)) (kp : ∀ b o, s.heap.get? b = some o → b ∉ foot a c → s'.heap.get? b = some o) (hg : s'.gens = s.gens) (ho : s'.os = s.os) :
    Ok T (C.eraseIdx i) s' ∧ Go C s.heap (C.eraseIdx i) s'.heap := by
  obtain ⟨p, _⟩ := set_perm (y := (a, c)) hi
  have k₁ : Ok T ([(a, c)] ++ C.eraseIdx i) s := k.perm p
  have fe : foots [(a, c)] = foot a c := by simp [foots]
  have g : Go [(a, c)] s.heap [] s'.heap := ⟨fun b o e hb => kp b o e (by rw [fe] at hb; exact hb), fun b hb => nomatch hb⟩
  have k₂ : Ok T [] s' := k₁.left.mk' g (fun x hx => nomatch hx) List.nodup_nil hg ho
  obtain ⟨k₃, g₃⟩ := k₁.frame k₂ g
  exact ⟨k₃, g₃.permL p.symm⟩
noncomputable def RelO (h : Heap) : Option V → Option Value → Prop
  | .none, x => x = .none
  | some v, x => ∃ y, x = some y ∧ Rel h v y
/-- the next item of an iterator, for a loop's target -/
structure Nt (T : TI) (A : Around) (C : Cs) (target : Expr) (it : Value) (K : Option V → Cs → Prop) : Prop where
  run : ∀ s, Ok T C s → wpAny (Mo T) A (pyNext it) (fun o s₁ => match o with
    | .none => PostG T C s.heap RelO K .none s₁
    | some x => wpAny (Mo T) A (letOwnedTupleGo target it x) (fun _ s₂ => PostG T C s.heap RelO K (some x) s₂) NoE s₁) NoE s
/-- a target bound to a value -/
structure Asn (T : TI) (A : Around) (env : Env) (ℓ : Lo) (H : Cs) (target : Expr) (v : V) (K : Lo → Cs → Prop) : Prop where
  run : ∀ s x, Ok T (lc env ℓ :: H) s → Rel s.heap v x → wpAny (Mo T) A (assign target env x) (fun _ s' => ∃ ℓ' H', K ℓ' H' ∧ Ok T (lc env ℓ' :: H') s' ∧ Go (lc env ℓ :: H) s.heap (lc env ℓ' :: H') s'.heap) NoE s
structure Asns (T : TI) (A : Around) (env : Env) (ℓ : Lo) (H : Cs) (ts : List Expr) (vs : List V) (K : Lo → Cs → Prop) : Prop where
  run : ∀ s xs, Ok T (lc env ℓ :: H) s → RelL s.heap vs xs → wpAny (Mo T) A (assignInOrder ((assignEach ts env).map (·.2)) xs) (fun _ s' => ∃ ℓ' H', K ℓ' H' ∧ Ok T (lc env ℓ' :: H') s' ∧ Go (lc env ℓ :: H) s.heap (lc env ℓ' :: H') s'.heap) NoE s
structure Fo (T : TI) (A : Around) (env : Env) (ℓ : Lo) (H : Cs) (target : Expr) (it : Value) (body orelse : List Stmt) (K : Fl → Lo → Cs → Prop) : Prop where
  run : ∀ s, Ok T (lc env ℓ :: H) s → codeAny (Mo T) A (.forLoop target it body orelse env) (fun r s' => ∃ f, r = .ok f ∧ PostG T (lc env ℓ :: H) s.heap RelF (fun f C' => ∃ ℓ' H', C' = lc env ℓ' :: H' ∧ K f ℓ' H') f s') s
/-- an iterator made of a value -/
structure Itr (T : TI) (A : Around) (C : Cs) (v : V) (K : Addr → Cs → Prop) : Prop where
  run : ∀ s x, Ok T C s → Rel s.heap v x → wpAny (Mo T) A (pyIter x) (fun y s' => ∃ a C', K a C' ∧ y = .ref a ∧ Ok T C' s' ∧ Go C s.heap C' s'.heap) NoE s
noncomputable def foK (T : TI) (A : Around) (env : Env) (target : Expr) (it : Value) (body orelse : List Stmt) (K : Fl → Lo → Cs → Prop) : Fl → Lo → Cs → Prop
  | .next, ℓ, H => Fo T A env ℓ H target it body orelse K
  | .cont, ℓ, H => Fo T A env ℓ H target it body orelse K
  | .brk, ℓ, H => K .next ℓ H
  | .ret v, ℓ, H => K (.ret v) ℓ H
section
variable {T : TI} {A : Around} {env : Env} {ℓ : Lo} {H : Cs}
noncomputable def ntK (T : TI) (A : Around) (env : Env) (ℓ : Lo) (target : Expr) (it : Value) (body orelse : List Stmt) (K : Fl → Lo → Cs → Prop) : Option V → Cs → Prop
  | .none, H => Exs T A env ℓ H orelse K
  | some v, H => Asn T A env ℓ H target v fun ℓ₂ H₂ => Exs T A env ℓ₂ H₂ body (foK T A env target it body orelse K)
theorem Fo_step {target : Expr} {it : Value} {body orelse : List Stmt} {K} (h : Nt T A (lc env ℓ :: H) target it (inH env ℓ (ntK T A env ℓ target it body orelse K))) : Fo T A env ℓ H target it body orelse K := by
  refine ⟨fun s k => ?_⟩
  refine codeAny_of_tree ?_
  show wpAny _ A ((forTurn target it body orelse env).onRaise (fun x => do noteFrame x env; theTreesLotGoes x)) _ _ s
  refine wpAny_noted (wpAny_mono (E := NoE) ?_ (fun _ _ q => q) fun _ _ e => e.elim)
  unfold forTurn
  refine wpAny_bind (wpAny_standAt (wpAny_bind (wpAny_onRaise (wpAny_mono (h.run s k) (fun o s₁ p => ?_) fun _ _ e => e.elim))))
  cases o with
  | none =>
    obtain ⟨v, _, ⟨H₁, rfl, hK⟩, r₁, k₁, g₁⟩ := p
    cases v with
    | some v => obtain ⟨y, e, _⟩ := r₁; cases e
    | none =>
      refine wpAny_pure ⟨rfl, codeAny_of_tree ?_⟩
      show wpAny _ A (do return Fin.done (← (execs orelse env).onRaise (fun x => do noteFrame x env; theTreesLotGoes x))) _ _ s₁
      refine wpAny_bind (wpAny_noted (wpAny_mono (E := NoE) (Exs.run hK s₁ k₁) (fun f s₂ q => ?_) fun _ _ e => e.elim))
      exact wpAny_pure ⟨f, rfl, q.trans g₁⟩
  | some x =>
    refine wpAny_bind (wpAny_mono p (fun _ s₂ q => ?_) fun _ _ e => e)
    obtain ⟨v, _, ⟨H₁, rfl, hK⟩, r₁, k₁, g₁⟩ := q
    cases v with
    | none => cases r₁
    | some v =>
      obtain ⟨y, e, ry⟩ := r₁
      cases e
      refine wpAny_bind (wpAny_mono (Asn.run hK s₂ x k₁ ry) ?_ fun _ _ e => e)
      rintro _ s₃ ⟨ℓ₂, H₂, hK₂, k₂, g₂⟩
      refine wpAny_bind (wpAny_mono (hK₂.run s₃ k₂) ?_ fun _ _ e => e)
      refine fun f s₄ p₀ => p₀.stE fun fl ℓ₃ H₃ hK₃ r₃ k₃ g₃ => ?_
      have g := (g₁.trans g₂).trans g₃
      cases fl with
      | next => cases r₃; exact wpAny_pure ⟨rfl, codeAny_mono (Fo.run hK₃ s₄ k₃) fun r s' ⟨f, e, p⟩ => ⟨f, e, p.trans g⟩⟩
      | cont => cases r₃; exact wpAny_pure ⟨rfl, codeAny_mono (Fo.run hK₃ s₄ k₃) fun r s' ⟨f, e, p⟩ => ⟨f, e, p.trans g⟩⟩
      | brk => cases r₃; exact wpAny_pure ⟨_, rfl, .next, _, ⟨ℓ₃, H₃, rfl, hK₃⟩, rfl, k₃, g⟩
      | ret v => obtain ⟨z, rfl, r⟩ := r₃; exact wpAny_pure ⟨_, rfl, .ret v, _, ⟨ℓ₃, H₃, rfl, hK₃⟩, ⟨z, rfl, r⟩, k₃, g⟩
theorem Ex_for {target iter : Expr} {body orelse : List Stmt} {pos : Pos} {K} (h : Ev T A env ℓ H iter fun v H₁ => Itr T A (lc env ℓ :: H₁) v fun a C' => ∃ H₂, C' = lc env ℓ :: H₂ ∧ Fo T A env ℓ H₂ target (.ref a) body orelse K)
    (hf : ∀ x, foldedSetIterable iter env x = pure x := by intro _; rfl) : Ex T A env ℓ H (.For target iter body orelse pos) K := by
  refine ⟨fun s k => ?_⟩
  rw [arm_exec_For]
  refine wpAny_bind (wpAny_standAt (wpAny_bind (wpAny_mono (h.run s k) ?_ fun _ _ e => e)))
  refine fun x s₁ p₀ => p₀.inE fun v H₁ hK r₁ k₁ g₁ => ?_
  rw [hf]
  refine wpAny_bind (wpAny_pure (wpAny_bind (wpAny_standAt (wpAny_bind (wpAny_holding (wpAny_mono (hK.run s₁ x k₁ r₁) ?_ fun _ _ e => e))))))
  rintro _ s₂ ⟨a, _, ⟨H₂, rfl, hK₂⟩, rfl, k₂, g₂⟩
  exact wpAny_runOwn (codeAny_mono (hK₂.run s₂ k₂) fun r s' ⟨f, e, p⟩ => by subst e; exact (p.trans g₂).trans g₁)
theorem Fo_ind {target : Expr} {it : Value} {body orelse : List Stmt} {K} {ι : Type} (I : ι → Lo → Cs → Prop) (m : ι → Nat)
    (step : ∀ i ℓ H, I i ℓ H → (∀ j ℓ' H', m j < m i → I j ℓ' H' → Fo T A env ℓ' H' target it body orelse K) → Fo T A env ℓ H target it body orelse K) (i : ι) {ℓ : Lo} {H : Cs} (h : I i ℓ H) : Fo T A env ℓ H target it body orelse K := by
  have key : ∀ n i ℓ H, m i = n → I i ℓ H → Fo T A env ℓ H target it body orelse K := by
    intro n
    induction n using Nat.strongRecOn with
    | ind n ih =>
      intro i ℓ H hn hI
      exact step i ℓ H hI fun j ℓ' H' hj hI' => ih (m j) (hn ▸ hj) j ℓ' H' rfl hI'
  exact key _ i ℓ H rfl h
theorem Fo.forget {ℓ' : Lo} {target : Expr} {it : Value} {body orelse : List Stmt} {K} (hs : Sub ℓ' ℓ) (h : Fo T A env ℓ' H target it body orelse K) : Fo T A env ℓ H target it body orelse K := by
  refine ⟨fun s k => ?_⟩
  obtain ⟨k', g'⟩ := k.forget hs
  exact codeAny_mono (h.run s k') fun r s' ⟨f, e, p⟩ => ⟨f, e, p.trans g'⟩
theorem Fo.drop {H' : Cs} {target : Expr} {it : Value} {body orelse : List Stmt} {K} (hs : H'.Sublist H) (h : Fo T A env ℓ H' target it body orelse K) : Fo T A env ℓ H target it body orelse K := by
  refine ⟨fun s k => ?_⟩
  obtain ⟨k', g'⟩ := k.drop (C' := lc env ℓ :: H') (hs.cons_cons _)
  exact codeAny_mono (h.run s k') fun r s' ⟨f, e, p⟩ => ⟨f, e, p.trans g'⟩
theorem Asn_name {x : Str} {pos : Pos} {v : V} {K} (h : ∃ ℓ', Upd x v ℓ ℓ' ∧ K ℓ' H) (hl : env.kindOf x = some .local := by kernel_rfl) (hk' : env.scope.kind = .function := by rfl) : Asn T A env ℓ H (.Name x pos) v K := by
  obtain ⟨ℓ', u, hK⟩ := h
  refine ⟨fun s y k r => ?_⟩
  rw [arm_assign_Name]
  exact wpAny_bind (wpAny_standAt (wpAny_bindName (store_ok u k r hk' (.inl hl) fun s' k' g' => ⟨ℓ', H, hK, k', g'⟩)))
theorem Asns_nil {K} (h : K ℓ H) : Asns T A env ℓ H [] [] K := ⟨fun s xs k r => wpAny_pure ⟨ℓ, H, h, k, Go.refl _ _⟩⟩
theorem Asns_cons {e : Expr} {es : List Expr} {v : V} {vs : List V} {K} (h : Asn T A env ℓ H e v fun ℓ₁ H₁ => Asns T A env ℓ₁ H₁ es vs K) (he : assignEach (e :: es) env = (false, assign e env) :: assignEach es env := by rfl) : Asns T A env ℓ H (e :: es) (v :: vs) K := by
  refine ⟨fun s xs k r => ?_⟩
  obtain ⟨x, ys, rfl, rx, ry⟩ := r.cons_inv
  rw [he]
  show wpAny _ A (do holding ys (assign e env x); assignInOrder ((assignEach es env).map (·.2)) ys) _ _ s
  refine wpAny_bind (wpAny_holding (wpAny_mono (h.run s x k rx) ?_ fun _ _ e => e))
  rintro _ s₁ ⟨ℓ₁, H₁, hK, k₁, g₁⟩
  refine wpAny_mono (hK.run s₁ ys k₁ (ry.keep (g₁.tup k))) ?_ fun _ _ e => e
  rintro _ s₂ ⟨ℓ₂, H₂, hK₂, k₂, g₂⟩
  exact ⟨ℓ₂, H₂, hK₂, k₂, g₁.trans g₂⟩
theorem IsT.isTuple {h : Heap} {t : Addr} {items : Array Value} {n : Nat} (x : IsT h t items n) : h.IsTuple t items := ⟨_, x, rfl, n, rfl⟩
theorem Asn_tuple {n : Nat} {es : List Expr} {kd : Nat} {pos : Pos} {vs : List V} {K} (rm : Rm A n) (h : Asns T A env ℓ H es vs K) (hn : (assignEach es env).length = vs.length := by rfl) (hstar : (assignEach es env).findIdx? (·.1) = none := by rfl) : Asn T A env ℓ H (.Tuple es kd pos) (.tup vs) K := by
  refine ⟨fun s x k r => ?_⟩
  obtain ⟨t, items, n, rfl, ht, r⟩ := r
  have hl := r.length
  rw [Array.length_toList] at hl
  refine wpAny_assign_Tuple rm.handled (IsT.isTuple ht) (hn.trans hl.symm) hstar fun h' hx => ?_
  have gr : Grow s { s with heap := h' } := ⟨fun b o e => hx b o (Nat.ne_of_lt (Heap.lt_size e)) e, rfl, rfl⟩
  obtain ⟨k', g'⟩ := k.grow gr
  refine wpAny_mono (h.run _ _ k' (r.keep gr.tup)) ?_ fun _ _ e => e
  rintro _ s₂ ⟨ℓ₂, H₂, hK₂, k₂, g₂⟩
  exact ⟨ℓ₂, H₂, hK₂, k₂, g'.trans g₂⟩
end
section
variable {T : TI} {A : Around} {C : Cs}
theorem Nt_range {i : Nat} {a : Addr} {x left step : Int} {target : Expr} {K} (hi : C[i]? = some (a, .rit x left step)) (hl : 0 < left) (h : K (some (.int x)) (C.set i (a, .rit (x + step) (left - 1) step)))
    (ht : ∀ y, letOwnedTupleGo target (.ref a) y = pure () := by intro _; rfl) : Nt T A C target (.ref a) K := by
  refine ⟨fun s k => ?_⟩
  have c := cell_at k hi
  refine wpAny_pyNext_range_item c hl fun h' c' hs => ?_
  show wpAny _ _ (letOwnedTupleGo target (.ref a) _) _ _ _
  rw [ht]
  obtain ⟨k', g'⟩ := k.upd (c' := .rit (x + step) (left - 1) step) (s' := { s with heap := h', toks := s.toks + 1 }) hi (fun b o e hb => (hs.2 b fun z => hb (z ▸ .head _)).trans e) (fun _ => c') rfl rfl rfl
  exact wpAny_pure ⟨_, _, h, ⟨_, rfl, _, rfl⟩, k', g'⟩
theorem Nt_range_end {n i : Nat} {a : Addr} {x left step : Int} {target : Expr} {K} (rm : Rm A n) (hi : C[i]? = some (a, .rit x left step)) (hl : left ≤ 0) (h : K .none (C.eraseIdx i)) : Nt T A C target (.ref a) K := by
  refine ⟨fun s k => ?_⟩
  refine wpAny_pyNext_range_end rm.handled (cell_at k hi) hl fun h' hs => ?_
  obtain ⟨k', g'⟩ := k.lose (s' := { s with heap := h' }) hi (fun b o e hb => hs b o (fun z => hb (z ▸ .head _)) e) rfl rfl
  exact ⟨_, _, h, rfl, k', g'⟩
theorem Nt_list {i j n : Nat} {a l : Addr} {vs : List V} {v : V} {target : Expr} {K} (hi : C[i]? = some (a, .lit l n)) (hj : C[j]? = some (l, .list vs)) (hv : vs[n]? = some v) (h : K (some v) (C.set i (a, .lit l (n + 1)))) : Nt T A C target (.ref a) K := by
  refine ⟨fun s k => ?_⟩
  have c := cell_at k hi
  obtain ⟨items, nn, hl, r⟩ := cell_at k hj
  obtain ⟨x, hx, rx⟩ := r.get hv
  refine wpAny_pyNext_list_item c hl.isList (by simpa using hx) fun h' c' hs => ?_
  obtain ⟨k', g'⟩ := k.upd (c' := .lit l (n + 1)) (s' := { s with heap := h' }) hi (fun b o e hb => (hs.2 b fun z => hb (z ▸ .head _)).trans e) (fun _ => c') rfl rfl rfl
  have fin : PostG T C s.heap RelO K (some x) { s with heap := h' } := ⟨_, _, h, ⟨_, rfl, rx.keep (g'.tup k)⟩, k', g'⟩
  show wpAny _ _ (letOwnedTupleGo target (.ref a) x) _ _ _
  unfold letOwnedTupleGo
  obtain ⟨o, ho, hc, hd⟩ := c'
  split
  · split
    · refine wpAny_bind (wpAny_load (by rename_i e; cases e; exact ho) ?_)
      rw [hc, hd]
      dsimp only
      rw [if_neg (by simp)]
      exact wpAny_pure fin
    · exact wpAny_pure fin
  · split
    · refine wpAny_bind (wpAny_load (by rename_i e; cases e; exact ho) ?_)
      rw [hc, hd]
      dsimp only
      rw [if_neg (by simp)]
      exact wpAny_pure fin
    · exact wpAny_pure fin
  · exact wpAny_pure fin
theorem Nt_list_end {m i j n : Nat} {a l : Addr} {vs : List V} {target : Expr} {K} (rm : Rm A m) (hi : C[i]? = some (a, .lit l n)) (hj : C[j]? = some (l, .list vs)) (hv : vs[n]? = none) (h : K .none (C.eraseIdx i)) : Nt T A C target (.ref a) K := by
  refine ⟨fun s k => ?_⟩
  obtain ⟨items, nn, hl, r⟩ := cell_at k hj
  have hlen := r.length
  rw [Array.length_toList] at hlen
  refine wpAny_pyNext_list_end rm.handled (cell_at k hi) hl.isList (by simp at hv ⊢; omega) fun h' hs => ?_
  obtain ⟨k', g'⟩ := k.lose (s' := { s with heap := h' }) hi (fun b o e hb => hs b o (fun z => hb (z ▸ .head _)) e) rfl rfl
  exact ⟨_, _, h, rfl, k', g'⟩
theorem Itr_list {j : Nat} {l : Addr} {vs : List V} {K} (hj : C[j]? = some (l, .list vs)) (h : ∀ a, K a ((a, .lit l 0) :: C)) : Itr T A C (.ref l) K := by
  refine ⟨fun s x k r => ?_⟩
  cases r
  obtain ⟨items, nn, hl, r⟩ := cell_at k hj
  refine wpAny_pyIter_list hl.isList ?_
  obtain ⟨k', g'⟩ := k.add (Grow.push s { cls := .type "list_iterator", data := .fields #[.ref l, .int 0 0] } s.toks) (a := s.heap.objs.size) (c := .lit l 0) ⟨_, Heap.get?_push_size _ rfl, rfl, rfl⟩ (fun b hb => by cases List.mem_singleton.mp hb; exact get?_end _) (by simp [foot])
  exact ⟨_, _, h _, rfl, k', g'⟩
end
end Mine
end
section
open PySem PySem.Spec PySem.Calls PyProof.Rows PySem.P
namespace Mine
/-- the one class of the text -/
structure Cls (T : TI) (C N : Addr) (mN : Str → Option Value) : Prop where
  at' : ClsAt T.h₁ C N mN
  nC : C ≠ T.tb
  nN : N ≠ T.tb
  ga : mN "__getattribute__" = none
  gh : mN "__getattr__" = none
  sa : mN "__setattr__" = none
theorem Cls.now {T : TI} {C N : Addr} {mN : Str → Option Value} (c : Cls T C N mN) {Cc : Cs} {s : Shared} (k : Ok T Cc s) : ClsAt s.heap C N mN := by
  obtain ⟨nm, q, bs, sn, sub, col, dd, k0, k1, k2, k3, k5, e⟩ := c.at'.obj
  exact ⟨⟨nm, q, bs, sn, sub, col, dd, k0, k1, k2, k3, k5, k.top _ _ e c.nC⟩, Ns.top k c.at'.ns c.nN⟩
theorem InstIs.inst {h : Heap} {a C d : Addr} {at' : Lo} (x : InstIs h a C d at') : ∃ mA, h.Inst a C mA ∧ AttrsAre h at' mA := by
  obtain ⟨o, mA, ho, hc, hn, hd, hne, hns, ha⟩ := x
  exact ⟨mA, ⟨o, ho, hc, hn, .inr ⟨d, hd, hne, hns⟩⟩, ha⟩
section
variable {T : TI} {A : Around} {env : Env} {ℓ : Lo} {H : Cs} {Cl N : Addr} {mN : Str → Option Value}
theorem AttrsAre.some {h : Heap} {at' : Lo} {mA : Str → Option Value} (z : AttrsAre h at' mA) {x : Str} {v : V} (e : at'.lookup x = some v) : ∃ y, mA x = some y ∧ Rel h v y := by
  have q := z x
  rw [e] at q; exact q
theorem AttrsAre.none {h : Heap} {at' : Lo} {mA : Str → Option Value} (z : AttrsAre h at' mA) {x : Str} (e : at'.lookup x = none) : mA x = none := by
  have q := z x
  rw [e] at q; exact q
theorem handed_of {h : Heap} {v : V} {y : Value} (r : Rel h v y) (hv : ∀ id, v ≠ .bi id) : handedOut y = pure y := by
  cases v <;> simp only [Rel] at r
  · subst r; rfl
  · subst r; rfl
  · obtain ⟨t, rfl⟩ := r; rfl
  · obtain ⟨t, rfl⟩ := r; rfl
  · obtain ⟨a, it, n, rfl, _⟩ := r; rfl
  · subst r; rfl
  · subst r; rfl
  · exact absurd rfl (hv _)
/-- x.name -/
theorem Ev_attr {o : Expr} {name : Str} {pos : Pos} {K} (c : Cls T Cl N mN) (hna : mN name = none) (hB : typeLookup (.type "object") name = pure none)
    (h : Ev T A env ℓ H o fun v H₁ => ∃ (a : Addr) (i : Nat) (d : Addr) (at' : Lo) (w : V), v = .ref a ∧ H₁[i]? = some (a, Cell.inst Cl d at') ∧ at'.lookup name = some w ∧ (∀ id, w ≠ .bi id) ∧ K w H₁)
    (he : eval (.Attribute o name pos) env = (do
      let o' ← eval o env
      standAt pos.atName
      let r ← holding [o'] (getAttr o' name true)
      letTemporaryGo o o' r
      pure r) := by rfl) : Ev T A env ℓ H (.Attribute o name pos) K := by
  refine ⟨fun s k => ?_⟩
  refine Attribute_any_ (wpAny_mono (h.run s k) ?_ fun _ _ e => e) he
  refine fun _ s₁ p₀ => p₀.inE fun v H₁ hh₀ r₁ k₁ g₁ => ?_
  obtain ⟨a, i, d, at', w, rfl, hi, hw, hb, hK⟩ := hh₀
  cases r₁
  have hi' : (lc env ℓ :: H₁)[i + 1]? = some (a, Cell.inst Cl d at') := by simpa using hi
  obtain ⟨mA, I, ha⟩ := InstIs.inst (cell_at k₁ hi')
  obtain ⟨y, hy, ry⟩ := ha.some hw
  obtain ⟨nm, q, bs, sn, sub, col, dd, k0, k1, k2, k3, k5, hC⟩ := (c.now k₁).obj
  have gr := Grow.tok s₁ (s₁.toks + 1)
  obtain ⟨k₂, g₂⟩ := k₁.grow gr
  obtain ⟨hh, g, dr, t, os⟩ := s₁
  exact load_attr hC (c.now k₁).ns c.ga hna hB I hy (handed_of ry hb) (PostG.inI (v := w) hK ry k₂ (g₁.trans g₂))
/-- x.name(..): a method of the class -/
theorem GM_inst {Cc : Cs} {i : Nat} {a d fn : Addr} {at' : Lo} {name : Str} {o : Obj} {y : Option Value} (c : Cls T Cl N mN) (hi : Cc[i]? = some (a, .inst Cl d at')) (hf : mN name = some (.ref fn)) (ho : T.h₁.get? fn = some o) (hne : fn ≠ T.tb) (hoc : o.cls = .type "function")
    (hB : typeLookup (.type "object") name = pure y) (hno : at'.lookup name = none) : GM T Cc (.ref a) name (.ref fn) := by
  rintro A pl s _ Q k rfl h
  obtain ⟨mA, I, ha⟩ := InstIs.inst (cell_at k hi)
  obtain ⟨nm, q, bs, sn, sub, col, dd, k0, k1, k2, k3, k5, hC⟩ := (c.now k).obj
  have hq := h s (Grow.refl s)
  have hfo := k.top _ _ ho hne
  have hns := (c.now k).ns
  obtain ⟨hh, g, dr, t, os⟩ := s
  exact method_of hC hns c.ga c.gh hf hfo hoc hB I (ha.none hno) hq
/-- a store into an object's names -/
theorem inst_store {C : Cs} {s : Shared} {i : Nat} {a d : Addr} {at' at'' : Lo} {x : Str} {v : V} {y : Value} {Q : Unit → Shared → Prop} (c : Cls T Cl N mN) (k : Ok T C s) (hi : C[i]? = some (a, .inst Cl d at')) (hna : mN x = none) (hB : typeLookup (.type "object") x = pure none)
    (hsz : at'.length ≤ 1000) (u : Upd x v at' at'') (r : Rel s.heap v y) (hCl : T.h₁.get? Cl ≠ none)
    (h : ∀ s', Ok T (C.set i (a, .inst Cl d at'')) s' → Go C s.heap (C.set i (a, .inst Cl d at'')) s'.heap → Q () s') : wpAny (Mo T) A (setAttr (.ref a) x y) Q NoE s := by
  have ci := cell_at k hi
  obtain ⟨o, mA, ho, hc, hn, hd, hne, hns, ha⟩ := id ci
  obtain ⟨nm, q, bs, sn, sub, col, dd, k0, k1, k2, k3, k5, hC⟩ := (c.now k).obj
  have hnsC := (c.now k).ns
  have hxC : a ≠ Cl := by
    rintro rfl
    rcases k.new a (List.mem_flatMap.mpr ⟨_, List.mem_of_getElem? hi, .head _⟩) with z | z
    · exact hCl z
    · exact c.nC z
  have hw : Within mA (at'.map (·.1)) := fun z hz => by
    cases e : at'.lookup z with
    | none => exact absurd (ha.none e) hz
    | some w => exact List.mem_map.mpr ⟨_, mem_of_lookup e, rfl⟩
  obtain ⟨hh, g, dr, t, os⟩ := s
  refine store_attr F.store_object hC hnsC c.sa hna hB hxC ⟨o, ho, hc, hn, .inr ⟨d, hd, hne, hns⟩⟩ (fun h' tk' I' hk hsame => ?_) hw (by rw [List.length_map, sizeLine_eq]; omega)
  obtain ⟨o₁, ho₁, e1, e2, e3, e4⟩ := hsame o ho
  obtain ⟨o₂, ho₂, hc₂, hn₂, hd₂⟩ := I'
  have : o₂ = o₁ := Option.some.inj (ho₂.symm.trans ho₁)
  subst this
  have hdd := e4 d hd
  obtain ⟨k', g'⟩ := k.upd (c' := .inst Cl d at'') (s' := ⟨h', g, dr, tk', os⟩) hi (fun b o' e hb => hk b o' (fun z => hb (z ▸ .head _)) (fun o₀ dx h0 h1 z => by
      rw [ho] at h0; cases h0; rw [hd] at h1; cases h1; exact hb (z ▸ .tail _ (.head _))) e) (fun tk => by
    rcases hd₂ with ⟨z, _⟩ | ⟨d₂, z, zne, zns⟩
    · rw [hdd] at z; cases z
    · rw [hdd] at z; cases z
      refine ⟨o₂, _, ho₂, hc₂, hn₂, hdd, zne, zns, fun w => ?_⟩
      rw [u.look]
      by_cases e : w = x
      · subst e; rw [if_pos rfl]; exact ⟨y, if_pos rfl, r.keep tk⟩
      · rw [if_neg e]
        have q := ha.keep tk w
        cases e' : at'.lookup w with
        | none => rw [e'] at q; simpa [e] using q
        | some v' => rw [e'] at q; obtain ⟨z, hz, rz⟩ := q; exact ⟨z, by simpa [e] using hz, rz⟩) rfl rfl rfl
  exact h _ k' g'
end
end Mine
end
section
open PySem PySem.Spec PySem.Calls PyProof.Rows PySem.P
namespace Mine
section
variable {T : TI} {A : Around} {env : Env} {ℓ : Lo} {H : Cs} {Cl N : Addr} {mN : Str → Option Value}
/-- x.name = v -/
theorem Ex_setattr {o e : Expr} {name : Str} {pos' pos : Pos} {K} (c : Cls T Cl N mN) (hna : mN name = none) (hB : typeLookup (.type "object") name = pure none) (hCl : T.h₁.get? Cl ≠ none)
    (h : Ev T A env ℓ H e fun v H₁ => Ev T A env ℓ H₁ o fun w H₂ => ∃ (a : Addr) (i : Nat) (d : Addr) (at' at'' : Lo), w = .ref a ∧ H₂[i]? = some (a, Cell.inst Cl d at') ∧ at'.length ≤ 1000 ∧ Upd name v at' at'' ∧ K .next ℓ (H₂.set i (a, .inst Cl d at'')))
    (hs : swapsWith e (some (.Attribute o name pos')) pos.line env = pure false := by rfl) : Ex T A env ℓ H (.Assign [.Attribute o name pos'] e pos) K := by
  refine ⟨fun s k => ?_⟩
  refine plainObj_wpAny_Assign_Attribute (wpAny_mono (h.run s k) ?_ fun _ _ e => e) hs
  refine fun y s₁ p₀ => p₀.inE fun v H₁ hK r₁ k₁ g₁ => ?_
  refine wpAny_mono (hK.run s₁ k₁) ?_ fun _ _ e => e
  refine fun _ s₂ p₀ => p₀.inE fun w H₂ hh₀ r₂ k₂ g₂ => ?_
  obtain ⟨a, i, d, at', at'', rfl, hi, hsz, u, hK₂⟩ := hh₀
  cases r₂
  have hi' : (lc env ℓ :: H₂)[i + 1]? = some (a, Cell.inst Cl d at') := by simpa using hi
  exact inst_store c k₂ hi' hna hB hsz u (r₁.keep (g₂.tup k₁)) hCl fun s' k' g' => PostG.stI (v := .next) hK₂ rfl k' ((g₁.trans g₂).trans g')
theorem attr_now {C : Cs} {s : Shared} {i : Nat} {a d : Addr} {at' : Lo} {name : Str} {w : V} {Q : Value → Shared → Prop} {ex : Bool} (c : Cls T Cl N mN) (k : Ok T C s) (hi : C[i]? = some (a, Cell.inst Cl d at')) (hna : mN name = none) (hB : typeLookup (.type "object") name = pure none) (hw : at'.lookup name = some w) (hb : ∀ id, w ≠ .bi id)
    (h : ∀ y, Rel s.heap w y → Q y { s with toks := s.toks + 1 }) : wpAny (Mo T) A (getAttr (.ref a) name ex) Q NoE s := by
  obtain ⟨mA, I, ha⟩ := InstIs.inst (cell_at k hi)
  obtain ⟨y, hy, ry⟩ := ha.some hw
  obtain ⟨nm, q, bs, sn, sub, col, dd, k0, k1, k2, k3, k5, hC⟩ := (c.now k).obj
  have hns := (c.now k).ns
  obtain ⟨hh, g, dr, t, os⟩ := s
  exact load_attr hC hns c.ga hna hB I hy (handed_of ry hb) (h y ry)
/-- x.name += v -/
theorem Ex_augattr {o e : Expr} {name : Str} {op : Operator} {pos' pos : Pos} {K} (c : Cls T Cl N mN) (hna : mN name = none) (hB : typeLookup (.type "object") name = pure none) (hCl : T.h₁.get? Cl ≠ none)
    (h : Ev T A env ℓ H o fun v H₁ => ∃ (a : Addr) (i : Nat) (d : Addr) (at' : Lo) (w : V), v = .ref a ∧ H₁[i]? = some (a, Cell.inst Cl d at') ∧ at'.lookup name = some w ∧ (∀ id, w ≠ .bi id) ∧ at'.length ≤ 1000 ∧
      Ev T A env ℓ H₁ e fun z H₂ => H₂ = H₁ ∧ OpI T A (lc env ℓ :: H₁) op w z fun u C' => C' = lc env ℓ :: H₁ ∧ ∃ at'', Upd name u at' at'' ∧ K .next ℓ (H₁.set i (a, .inst Cl d at''))) : Ex T A env ℓ H (.AugAssign (.Attribute o name pos') op e pos) K := by
  refine ⟨fun s k => ?_⟩
  refine wpAny_AugAssign_AttributeAny (wpAny_mono (h.run s k) ?_ fun _ _ e => e)
  refine fun _ s₁ p₀ => p₀.inE fun v H₁ hh₀ r₁ k₁ g₁ => ?_
  obtain ⟨a, i, d, at', w, rfl, hi, hw, hb, hsz, hK⟩ := hh₀
  cases r₁
  have hi' : (lc env ℓ :: H₁)[i + 1]? = some (a, Cell.inst Cl d at') := by simpa using hi
  refine attr_now c k₁ hi' hna hB hw hb fun y ry => ?_
  obtain ⟨k₂, g₂⟩ := k₁.grow (Grow.tok s₁ (s₁.toks + 1))
  refine wpAny_mono (hK.run _ k₂) ?_ fun _ _ e => e
  refine fun z s₃ p₀ => p₀.inE fun v₃ H₂ hh₀ r₃ k₃ g₃ => ?_
  obtain ⟨rfl, hK₃⟩ := hh₀
  refine wpAny_mono (hK₃.run s₃ y z k₃ (ry.keep (g₃.tup k₂)) r₃) ?_ fun _ _ e => e
  rintro q s₄ ⟨u', _, ⟨rfl, at'', u, hK₄⟩, r₄, k₄, g₄⟩
  exact inst_store c k₄ hi' hna hB hsz u r₄ hCl fun s' k' g' => PostG.stI (v := .next) hK₄ rfl k' ((((g₁.trans g₂).trans g₃).trans g₄).trans g')
set_option maxHeartbeats 1000000 in
/-- a name of the object that is called -/
theorem GA_inst {Cc : Cs} {i : Nat} {a d fn : Addr} {at' : Lo} {name : Str} (c : Cls T Cl N mN) (hi : Cc[i]? = some (a, .inst Cl d at')) (hna : mN name = none) (hB : typeLookup (.type "object") name = pure none) (hw : at'.lookup name = some (.ref fn)) : GA T Cc (.ref a) name (.ref fn) := by
  rintro A pl s _ Q k rfl h
  obtain ⟨mA, I, ha⟩ := InstIs.inst (cell_at k hi)
  obtain ⟨nm, q, bs, sn, sub, col, dd, k0, k1, k2, k3, k5, hC⟩ := (c.now k).obj
  have hns := (c.now k).ns
  have hcan := F.canon_object_ga
  have fin : wpAny (Mo T) A (getAttr (.ref a) name) (fun v s' => Q (v, []) s') NoE s := attr_now c k hi hna hB hw (fun _ e => by cases e) fun y ry => by cases ry; exact h _ (Grow.tok s _)
  obtain ⟨o, hx, hc, hnc, hd⟩ := I
  have hga := c.ga
  have hgh := c.gh
  obtain ⟨hh, g, dr, t, os⟩ := s
  unfold getMethod specialOf
  repeat (first | (with_reducible exact wpAny_bind (wpAny_mono fin (fun v s' hv => wpAny_pure hv) fun _ _ e => e)) | (with_reducible refine wpAny_loadPart_at hx ?_; rw [hc]) | (with_reducible refine wpAny_typeLookup_exc hC hns F.mro_object F.lk_object_ga ?_; rw [hga]) | (with_reducible refine wpAny_typeLookup_exc hC hns F.mro_object F.lk_object_getattr ?_; rw [hgh]) | (with_reducible refine wpAny_typeLookup_exc hC hns F.mro_object hB ?_; rw [hna]) | simp only [hcan, Bool.false_eq_true, if_false] | wp_step)
end
end Mine
end
section
open PySem PySem.Spec PySem.Calls PyProof.Rows PySem.P
namespace Mine
theorem slot_cit_next : Slot "callable_iterator" "__next__" "callable_iterator.__next__" :=
  .of (owner := "callable_iterator") (n := "__next__") (by rw [typeLookup_type, builtinLookup_eq_fast]; kernel_rfl) (by decide +kernel) (by decide +kernel) (by decide +kernel)
    (by first | exact .inl (by decide +kernel) | exact .inr (by decide +kernel)) (by rw [isSubtype_type]; kernel_rfl)
theorem entry_cit_next : entryFor table "callable_iterator.__next__" = some Builtin.«callable_iterator.__next__» := entryFor_of_tree (by kernel_rfl)
theorem owner_cit : Manifest.owners.lookup (String.ofList ['r', 'o', 't', 'a', 'r', 'e', 't', 'i', '_', 'e', 'l', 'b', 'a', 'l', 'l', 'a', 'c'].reverse) = some Manifest.sig_callable_iterator := by kernel_rfl
theorem args_cit_next_1 (a : Value) : argsOk "callable_iterator.__next__" ⟨[a], []⟩ := by
  unfold argsOk; rw [signature?_of (id := "callable_iterator.__next__") (n := ['_', '_', 't', 'x', 'e', 'n', '_', '_']) (o := ['r', 'o', 't', 'a', 'r', 'e', 't', 'i', '_', 'e', 'l', 'b', 'a', 'l', 'l', 'a', 'c']) (by kernel_rfl) owner_cit]; kernel_rfl
theorem Ok.swap {T : TI} {C : Cs} {s s' : Shared} {i : Nat} {a a' : Addr} {c c' : Cell} (k : Ok T C s) (hi : C[i]? = some (a, c)) (gr : Grow s s') (ca : CellAt T s'.heap a' c') (hf : ∀ b ∈ foot a' c', b ∈ foot a c ∨ s.heap.get? b = none) (nd : (foot a' c').Nodup) :
    Ok T (C.set i (a', c')) s' ∧ Go C s.heap (C.set i (a', c')) s'.heap := by
  obtain ⟨p, q⟩ := set_perm (y := (a', c')) hi
  have k₁ : Ok T ([(a, c)] ++ C.eraseIdx i) s := k.perm p
  have fe : foots [(a, c)] = foot a c := by simp [foots]
  have fe' : foots [(a', c')] = foot a' c' := by simp [foots]
  have g : Go [(a, c)] s.heap [(a', c')] s'.heap := ⟨fun b o e hb => gr.keep b o e, fun b hb => by rw [fe'] at hb; rw [fe]; exact hf b hb⟩
  have k₂ : Ok T [(a', c')] s' := k₁.left.mk' g (fun x hx => by cases List.mem_singleton.mp hx; exact ca) (by rw [fe']; exact nd) gr.gens gr.os
  obtain ⟨k₃, g₃⟩ := k₁.frame k₂ g
  exact ⟨k₃.perm q, (g₃.permL p.symm).permR q⟩
theorem lk_method_call : typeLookup (.type "method") "__call__" = pure (some (.builtin "method.__call__")) := by rw [typeLookup_type, builtinLookup_eq_fast]; kernel_rfl
section
variable {prog : Program} {w : World} {A : Around} {s : Shared}
theorem wp_stop {α : Type} {Q : α → Shared → Prop} {E : Value → Shared → Prop} (hh : A.handled = none)
    (h : ∀ h' x, (∀ b o, s.heap.get? b = some o → h'.get? b = some o) → (∃ o, h'.get? x = some o ∧ o.cls = .type "StopIteration") → E (.ref x) { s with heap := h' }) : wpAny (model prog w) A (Builtin.SmallTypes.stopIteration : Sem α) Q E s := by
  unfold Builtin.SmallTypes.stopIteration
  show wpAny _ _ (newExc (.type "StopIteration") [] >>= _) _ _ _
  refine wpAny_bind ?_
  simp only [newExc, newTuple]
  refine wpAny_bind (wpAny_newObj_type ?_ (by size_fits))
  refine wpAny_bind (m := firstArgMember _ _) (wpAny_of_eq (a := Value.none) (by first | rfl | (simp only [firstArgMember]; rfl)) ?_)
  refine wpAny_newObj_type ?_ (by size_fits)
  simp only [raiseNew]
  refine wpAny_bind (wpAny_handled ?_)
  rw [hh]
  refine wpAny_bind (wpAny_pure (wpAny_throw ?_))
  exact h _ _ (fun b o e => Heap.get?_push_of_some _ (Heap.get?_push_of_some _ e)) ⟨_, Heap.get?_push_size _ rfl, rfl⟩
theorem wp_borrowed {f : Value} {pos : List Value} {Q : Value → Shared → Prop} {E : Value → Shared → Prop} (h : wpAny (model prog w) A (call f pos) Q E s) : wpAny (model prog w) A (callBorrowed f pos) Q E s := by
  intro Γ p hΓ
  have q := h Γ p hΓ
  rw [Sem.wp_cmd_call] at q
  unfold callBorrowed
  rw [Sem.wp_call]
  refine wpCode_mono (fun r s' z => ?_) q
  cases r with
  | error e => exact z
  | ok f => cases f <;> exact z
theorem borrows_meth {m f self : Addr} {o : Obj} {fd : FuncData} {Q : Bool → Shared → Prop} {E : Value → Shared → Prop} (hm : s.heap.get? m = some (methObj f self)) (hf : s.heap.get? f = some o) (hd : o.data = .func fd) (h : Q true s) : wpAny (model prog w) A (borrowsExactly (.ref m)) Q E s := by
  unfold borrowsExactly
  dsimp only
  refine wpAny_bind (wpAny_load hm ?_)
  dsimp only
  rw [if_pos (by decide)]
  show wpAny _ _ (do match (← load f).data with | .func _ => pure true | _ => pure false) _ _ _
  refine wpAny_bind (wpAny_load hf ?_)
  rw [hd]
  exact wpAny_pure h

end
section
variable {T : TI} {A : Around} {C : Cs}
/-- iter(x.m, '') -/
theorem Call_iter2 {i : Nat} {m f self : Addr} {o : Obj} {fd : FuncData} {K} (hi : C[i]? = some (m, .meth f self)) (h : ∀ a, K (.ref a) (C.set i (a, .cit m f self false))) : Call T A C (.builtin "iter") [.ref m, .str Str.empty] K := by
  refine ⟨fun s xs k r => ?_⟩
  obtain ⟨x, ys, rfl, rx, r1⟩ := r.cons_inv
  obtain ⟨y, zs, rfl, ⟨t, rfl⟩, r2⟩ := r1.cons_inv
  cases r2.nil_inv
  cases rx
  have hm : s.heap.get? m = some (methObj f self) := cell_at k hi
  have hT : s.TypeIs (.ref m) "method" := ⟨_, hm, rfl⟩
  refine call_function_entry (by decide +kernel) (by decide +kernel) (entryFor_of_tree (b := Builtin.«iter») (by kernel_rfl)) (by unfold argsOk; kernel_rfl) ?_
  show wpAny _ _ (do
    if (← specialOf (.ref m) "__call__").isNone then rule "iter.not-callable"; raiseError "TypeError" "iter(v, w): v must be callable"
    rule "iter.sentinel"; ret (← newFields "callable_iterator" [.ref m, .str Str.empty t, .bool false])) _ _ _
  refine wpAny_bind (wpAny_specialOf hT lk_method_call ?_)
  refine wpAny_bind (wpAny_rule (wpAny_bind ?_))
  unfold newFields
  refine wpAny_newObj_type (wpAny_pure ⟨_, rfl, ?_⟩) (by size_fits)
  have hne : s.heap.objs.size ≠ m := Nat.ne_of_gt (Heap.lt_size hm)
  obtain ⟨k', g'⟩ := k.swap (a' := s.heap.objs.size) (c' := .cit m f self false) hi (Grow.push s { cls := .type "callable_iterator", data := .fields #[.ref m, .str Str.empty t, .bool false] } s.toks)
    ⟨⟨t, Heap.get?_push_size _ rfl⟩, Heap.get?_push_of_some _ hm⟩ (fun b hb => by
      simp only [foot, List.mem_cons, List.not_mem_nil, or_false] at hb
      rcases hb with rfl | rfl
      · exact .inr (get?_end _)
      · exact .inl (.head _)) (by simp [foot, hne])
  exact ⟨_, _, h _, rfl, k', g'⟩
end
end Mine
end
section
open PySem PySem.Spec PySem.Calls PyProof.Rows PySem.P
namespace Mine
theorem call_bound {prog : Program} {w : World} {A : Around} {s : Shared} {m f self : Addr} {a : Args} {R : Result → Shared → Prop} (hm : s.heap.get? m = some (methObj f self))
    (hq : codeAny (model prog w) A (.call (.ref f) { a with pos := .ref self :: a.pos }) R s) : codeAny (model prog w) A (.call (.ref m) a) R s := by
  refine codeAny_of_tree ?_
  show wpAny _ A.in1 (callAny (.ref m) a) _ _ _
  unfold callAny
  refine wpAny_bind (wpAny_load hm ?_)
  exact wpAny_pure ⟨rfl, hq⟩
section
variable {T : TI} {A : Around} {C : Cs}
set_option maxHeartbeats 1000000 in
theorem Nt_cit {n i : Nat} {a m f self : Addr} {o : Obj} {fd : FuncData} {target : Expr} {K} (rm : Rm A (n + 1)) (hi : C[i]? = some (a, .cit m f self false)) (hf : T.h₁.get? f = some o) (hfn : f ≠ T.tb) (hfd : o.data = .func fd)
    (h : CallC T A.in1 C (.ref f) [.ref self] (fun v C₁ => C₁[i]? = some (a, .cit m f self false) ∧ ∃ x, v = .str x ∧ if x = Str.empty then K .none (C₁.set i (a, .cit m f self true)) else K (some (.str x)) C₁))
    (ht : ∀ y, letOwnedTupleGo target (.ref a) y = pure () := by intro _; rfl) : Nt T A C target (.ref a) K := by
  refine ⟨fun s k => ?_⟩
  obtain ⟨⟨t, hc⟩, hm⟩ := cell_at k hi
  replace hc : s.heap.get? a = some { cls := .type "callable_iterator", data := .fields #[.ref m, .str Str.empty t, .bool false] } := hc
  have hT : s.TypeIs (.ref a) "callable_iterator" := ⟨_, hc, rfl⟩
  unfold pyNext
  refine wpAny_bind (wpAny_attempt (wpAny_callSpecial?_slot (name := Str.ofString "__next__") hT slot_cit_next (wpAny_call_entry slot_cit_next hT entry_cit_next ?_ (args_cit_next_1 _))))
  unfold Builtin.«callable_iterator.__next__»
  show wpAny _ _ (field (.ref a) 2 >>= _) _ _ s
  refine wpAny_bind (wpAny_field hc rfl (x := .bool false) rfl ?_)
  rw [if_neg (by decide)]
  refine wpAny_bind (wpAny_field hc rfl (x := .ref m) rfl ?_)
  refine wpAny_bind (wpAny_attempt ?_)
  unfold callOutOfASlot
  refine wpAny_bind (borrows_meth hm (k.top _ _ hf hfn) hfd ?_)
  rw [if_pos rfl]
  refine wp_borrowed (wpAny_call (call_bound hm (codeAny_mono (h.run s [.ref self] k (RelL.one rfl)) ?_)))
  rintro _ s₁ ⟨x, rfl, v, C₁, ⟨hi₁, y, rfl, hK⟩, ⟨u, rfl⟩, k₁, g₁⟩
  obtain ⟨⟨t₁, hc₁⟩, hm₁⟩ := cell_at k₁ hi₁
  replace hc₁ : s₁.heap.get? a = some { cls := .type "callable_iterator", data := .fields #[.ref m, .str Str.empty t₁, .bool false] } := hc₁
  show wpAny _ _ (field (.ref a) 2 >>= _) _ _ s₁
  refine wpAny_bind (wpAny_field hc₁ rfl (x := .bool false) rfl ?_)
  rw [if_neg (by decide)]
  refine wpAny_bind (wpAny_field hc₁ rfl (x := .str Str.empty t₁) rfl ?_)
  refine wpAny_bind (wpAny_holding (SeqAt.EqAt.str_str Str.empty t₁ y u _ _ _ _ ?_))
  by_cases hy : y = Str.empty
  · subst hy
    rw [if_pos rfl] at hK
    rw [if_neg (by simp)]
    refine wpAny_bind (wpAny_rule (wpAny_bind ?_))
    wp_delta
    refine wpAny_bind (wpAny_field hc₁ rfl (x := .ref m) rfl ?_)
    refine wpAny_bind ?_
    unfold slotLetsGo
    dsimp only
    refine wpAny_bind (borrows_meth hm₁ (k₁.top _ _ hf hfn) hfd ?_)
    rw [if_pos rfl]
    refine wpAny_pure (wpAny_bind (wpAny_setField_rec hc₁ (by simp) fun h₂ hc₂ hs₂ => wpAny_bind (wpAny_setField_rec hc₂ (by simp) fun h₃ hc₃ hs₃ => wpAny_setField_rec hc₃ (by simp) fun h₄ hc₄ hs₄ => ?_)))
    refine wp_stop rm.handled fun h₅ e hk₅ he₅ => ?_
    show wpAny _ _ (isInstance (.ref e) (.type "StopIteration") >>= _) _ _ _
    obtain ⟨oe, hoe, hce⟩ := he₅
    refine wpAny_bind (wpAny_isInstance (T := "StopIteration") (b := true) ⟨oe, hoe, hce⟩ isSubtype_stop ?_)
    rw [if_pos rfl]
    refine wpAny_pure ?_
    have same : ∀ b o, s₁.heap.get? b = some o → b ≠ a → h₅.get? b = some o := fun b o e hb => hk₅ b o ((hs₄.2 b hb).trans ((hs₃.2 b hb).trans ((hs₂.2 b hb).trans e)))
    have ham : a ≠ m := by
      rintro rfl
      rw [hc₁] at hm₁
      have z : (Value.type "callable_iterator") = Value.type "method" := congrArg Obj.cls (Option.some.inj hm₁)
      exact absurd z (by decide)
    obtain ⟨k₅, g₅⟩ := k₁.upd (c' := .cit m f self true) (s' := { s₁ with heap := h₅ }) hi₁ (fun b o e hb => same b o e fun z => hb (z ▸ .head _)) (fun _ => ⟨⟨0, hk₅ a _ (by have z := hc₄; simp at z; exact z)⟩, same m _ hm₁ (Ne.symm ham)⟩) rfl rfl rfl
    exact ⟨.none, _, hK, rfl, k₅, g₁.trans g₅⟩
  · rw [if_neg hy] at hK
    rw [if_pos (by simpa using fun e => hy e.symm)]
    refine wpAny_pure ⟨_, rfl, wpAny_pure ?_⟩
    show wpAny _ _ (letOwnedTupleGo target (.ref a) _) _ _ _
    rw [ht]
    exact wpAny_pure ⟨some (.str y), _, hK, ⟨_, rfl, u, rfl⟩, k₁, g₁⟩
/-- a callable iterator that has come to its end -/
theorem Nt_cit_dead {n i : Nat} {a m f self : Addr} {target : Expr} {K} (rm : Rm A n) (hi : C[i]? = some (a, .cit m f self true)) (h : K .none C) : Nt T A C target (.ref a) K := by
  refine ⟨fun s k => ?_⟩
  obtain ⟨⟨t, hc⟩, hm⟩ := cell_at k hi
  replace hc : s.heap.get? a = some { cls := .type "callable_iterator", data := .fields #[.none, .none, .bool true] } := hc
  have hT : s.TypeIs (.ref a) "callable_iterator" := ⟨_, hc, rfl⟩
  unfold pyNext
  refine wpAny_bind (wpAny_attempt (wpAny_callSpecial?_slot (name := Str.ofString "__next__") hT slot_cit_next (wpAny_call_entry slot_cit_next hT entry_cit_next ?_ (args_cit_next_1 _))))
  unfold Builtin.«callable_iterator.__next__»
  show wpAny _ _ (field (.ref a) 2 >>= _) _ _ s
  refine wpAny_bind (wpAny_field hc rfl (x := .bool true) rfl ?_)
  rw [if_pos (by decide)]
  refine wpAny_bind (wpAny_rule (wpAny_bind ?_))
  refine wp_stop rm.handled fun h₅ e hk₅ he₅ => ?_
  show wpAny _ _ (isInstance (.ref e) (.type "StopIteration") >>= _) _ _ _
  obtain ⟨oe, hoe, hce⟩ := he₅
  refine wpAny_bind (wpAny_isInstance (T := "StopIteration") (b := true) ⟨oe, hoe, hce⟩ isSubtype_stop ?_)
  rw [if_pos rfl]
  obtain ⟨k', g'⟩ := k.grow (s' := { s with heap := h₅ }) ⟨hk₅, rfl, rfl⟩
  exact wpAny_pure ⟨.none, _, h, rfl, k', g'⟩
end
end Mine
end
section
open PySem PySem.Spec PySem.Calls PyProof.Rows PySem.P
open Builtin Builtin.ObjectAttr
namespace Mine
theorem lk_fn_get : typeLookup (.type "function") "__get__" = pure (some (.builtin "function.__get__")) := by rw [typeLookup_type, builtinLookup_eq_fast]; kernel_rfl
theorem lk_fn_set : typeLookup (.type "function") "__set__" = pure none := by rw [typeLookup_type, builtinLookup_eq_fast]; kernel_rfl
theorem lk_fn_delete : typeLookup (.type "function") "__delete__" = pure none := by rw [typeLookup_type, builtinLookup_eq_fast]; kernel_rfl
section
variable {prog : Program} {w : World} {A : Around} {E : Value → Shared → Prop} {h : Heap} {g : Array GenState} {d : Drawn} {t : Nat} {os : OsState}
variable {nm q : Str} {C N x : Addr} {bs : List Value} {sn : List Str} {sub : List Value} {ab : Bool} {col : Option Bool} {dd : Option Addr} {k0 k1 k2 k3 k5 : Option Value} {newId : String}
  {mN mA : Str → Option Value} {name : Str} {v : Value}
set_option maxHeartbeats 1000000 in
theorem bound_entry {tk : Tok} {f : Addr} {of : Obj} {y : Option Value} {Q : Fin → Shared → Prop}
    (hC : h.get? C = some (excClassObj nm q C N bs [.type "object"] true sn sub ab col dd k0 k1 k2 k3 k5 newId)) (hn : h.Ns N mN) (hnh : mN "__getattr__" = none)
    (hf : mN name = some (.ref f)) (hfo : h.get? f = some of) (hfc : of.cls = .type "function") (hB : typeLookup (.type "object") name = pure y) (I : h.Inst x C mA) (hsh : mA name = none)
    (hg : (["__module__", "__name__", "__qualname__", "__doc__", "__annotations__"] : List Str).contains name = false)
    (hq : Q (.done (.ret (.ref h.objs.size))) ⟨h.push (methObj f x), g, d, t, os⟩) :
    wpAny (model prog w) A (Builtin.«proto.getattr_hooked» ⟨[.ref x, .str name tk], []⟩) Q E ⟨h, g, d, t, os⟩ := by
  obtain ⟨o, hx, hc, hnc, hd⟩ := I
  have f1 := lk_fn_get
  have f2 := lk_fn_set
  have f3 := lk_fn_delete
  have hT : (⟨h, g, d, t, os⟩ : Shared).TypeIs (.ref f) "function" := ⟨_, hfo, hfc⟩
  unfold Builtin.«proto.getattr_hooked» find
  repeat (first | (with_reducible refine wpAny_loadPart_at hx ?_; rw [hc]) | (with_reducible refine wpAny_typeLookup_exc hC hn F.mro_object hB ?_; rw [hf]) | (with_reducible refine wpAny_typeOf hT ?_) | (with_reducible refine wpAny_specialOf hT (by assumption) ?_) | wp_step)
  split
  · rename_i c hcd
    exact absurd hcd (hnc c)
  unfold instanceDict
  repeat (first | (with_reducible refine wpAny_loadPart_at hx ?_; rw [hc]) | with_reducible refine wpAny_loadPart_at hC ?_ | wp_step)
  rcases hd with ⟨hdn, _⟩ | ⟨dx, hdx, _, hns⟩
  · rw [hdn]
    repeat wp_step
    rw [hg, if_neg Bool.false_ne_true]
    repeat (first | (with_reducible refine wpAny_typeLookup_exc hC hn F.mro_object F.lk_object_getattr ?_; rw [hnh]) | wp_step)
    refine PySem.W.fn_get (K := [(f, of)]) (fun b ob e => ?_) (by simp [PySem.W.typeIn, hfc]) ?_
    · have e' : (if (b == f) = true then some of else none) = some ob := by
        have z := e
        rw [List.lookup_cons] at z
        cases hb : b == f <;> simp [hb] at z ⊢
        exact z
      split at e'
      · rename_i hb
        cases e'
        rw [beq_iff_eq.mp hb]; exact hfo
      · cases e'
    · repeat wp_step
      exact hq
  · rw [hdx]
    repeat (first | (with_reducible refine wpAny_nsGet hns.ns ?_; rw [hsh]) | wp_step)
    rw [hg, if_neg Bool.false_ne_true]
    repeat (first | (with_reducible refine wpAny_typeLookup_exc hC hn F.mro_object F.lk_object_getattr ?_; rw [hnh]) | wp_step)
    refine PySem.W.fn_get (K := [(f, of)]) (fun b ob e => ?_) (by simp [PySem.W.typeIn, hfc]) ?_
    · have e' : (if (b == f) = true then some of else none) = some ob := by
        have z := e
        rw [List.lookup_cons] at z
        cases hb : b == f <;> simp [hb] at z ⊢
        exact z
      split at e'
      · rename_i hb
        cases e'
        rw [beq_iff_eq.mp hb]; exact hfo
      · cases e'
    · repeat wp_step
      exact hq
theorem bound_attr {expr : Bool} {f : Addr} {of : Obj} {y : Option Value} {Q : Value → Shared → Prop}
    (hC : h.get? C = some (excClassObj nm q C N bs [.type "object"] true sn sub ab col dd k0 k1 k2 k3 k5 newId)) (hn : h.Ns N mN) (hng : mN "__getattribute__" = none) (hnh : mN "__getattr__" = none)
    (hf : mN name = some (.ref f)) (hfo : h.get? f = some of) (hfc : of.cls = .type "function") (hB : typeLookup (.type "object") name = pure y) (I : h.Inst x C mA) (hsh : mA name = none)
    (hg : (["__module__", "__name__", "__qualname__", "__doc__", "__annotations__"] : List Str).contains name = false) (hq : Q (.ref h.objs.size) ⟨h.push (methObj f x), g, d, t + 1, os⟩) :
    wpAny (model prog w) A (getAttr (.ref x) name expr) Q E ⟨h, g, d, t, os⟩ := by
  obtain ⟨o, hx, hc, _⟩ := id I
  unfold getAttr getAttrBy
  repeat (first | (with_reducible refine wpAny_loadPart_at hx ?_; rw [hc]) | (with_reducible refine wpAny_typeLookup_exc hC hn F.mro_object F.lk_object_ga ?_; rw [hng]) | wp_step)
  show wpAny _ _ ((runValue (.builtin "proto.getattr_hooked" ⟨[.ref x, .str name t], []⟩)).onRaise (noteIf true (.ref x) (.str name t))) _ _ _
  refine wpAny_onRaise (wpAny_runValue (codeAny_builtin F.plainObj_entry_getattr_hooked (bound_entry hC hn hnh hf hfo hfc hB I hsh hg ?_)))
  exact wpAny_pure hq
end
section
variable {T : TI} {A : Around} {env : Env} {ℓ : Lo} {H : Cs} {Cl N : Addr} {mN : Str → Option Value}
/-- x.m as a value -/
theorem Ev_bound {o : Expr} {name : Str} {pos : Pos} {fn : Addr} {of : Obj} {y : Option Value} {K} (c : Cls T Cl N mN) (hf : mN name = some (.ref fn)) (ho : T.h₁.get? fn = some of) (hne : fn ≠ T.tb) (hoc : of.cls = .type "function") (hB : typeLookup (.type "object") name = pure y)
    (hg : (["__module__", "__name__", "__qualname__", "__doc__", "__annotations__"] : List Str).contains name = false)
    (h : Ev T A env ℓ H o fun v H₁ => ∃ (a : Addr) (i : Nat) (d : Addr) (at' : Lo), v = .ref a ∧ H₁[i]? = some (a, Cell.inst Cl d at') ∧ at'.lookup name = none ∧ ∀ m, K (.ref m) ((m, .meth fn a) :: H₁))
    (he : eval (.Attribute o name pos) env = (do
      let o' ← eval o env
      standAt pos.atName
      let r ← holding [o'] (getAttr o' name true)
      letTemporaryGo o o' r
      pure r) := by rfl) : Ev T A env ℓ H (.Attribute o name pos) K := by
  refine ⟨fun s k => ?_⟩
  refine Attribute_any_ (wpAny_mono (h.run s k) ?_ fun _ _ e => e) he
  refine fun _ s₁ p₀ => p₀.inE fun v H₁ hh₀ r₁ k₁ g₁ => ?_
  obtain ⟨a, i, d, at', rfl, hi, hw, hK⟩ := hh₀
  cases r₁
  have hi' : (lc env ℓ :: H₁)[i + 1]? = some (a, Cell.inst Cl d at') := by simpa using hi
  obtain ⟨mA, I, ha⟩ := InstIs.inst (cell_at k₁ hi')
  obtain ⟨nm, q, bs, sn, sub, col, dd, k0, k1, k2, k3, k5, hC⟩ := (c.now k₁).obj
  have hns := (c.now k₁).ns
  have hfo := k₁.top _ _ ho hne
  obtain ⟨k₂, g₂⟩ := k₁.add (Grow.push s₁ (methObj fn a) (s₁.toks + 1)) (a := s₁.heap.objs.size) (c := .meth fn a) (Heap.get?_push_size _ rfl) (fun b hb => by cases List.mem_singleton.mp hb; exact get?_end _) (by simp [foot])
  have p : ((s₁.heap.objs.size, Cell.meth fn a) :: lc env ℓ :: H₁).Perm (lc env ℓ :: (s₁.heap.objs.size, Cell.meth fn a) :: H₁) := .swap _ _ _
  have fin : PostG T (lc env ℓ :: H) s.heap Rel (fun v C' => ∃ H', C' = lc env ℓ :: H' ∧ K v H') (.ref s₁.heap.objs.size) { s₁ with heap := s₁.heap.push (methObj fn a), toks := s₁.toks + 1 } :=
    (PostG.inI (v := .ref s₁.heap.objs.size) (hK _) rfl (k₂.perm p) ((g₁.trans g₂).permR p))
  obtain ⟨hh, g, dr, t, os⟩ := s₁
  exact bound_attr hC hns c.ga c.gh hf hfo hoc hB I (ha.none hw) hg fin
/-- C(..): an object of the class -/
theorem under_make {n : Nat} {C : Addr} {vals : List Value} (rm : Rm A (n + 1)) : Rm (A.under (.builtin "type.__call__" ⟨.ref C :: vals, []⟩)) n := by
  refine ⟨rm.handled, ?_, ?_⟩
  · have := rm.depth
    show A.depth + 1 + n ≤ 900
    omega
  · have := rm.units
    first
      | (show A.units + 2 + 20 * n + 40 ≤ 9000; omega)
      | (show A.units + 3 + 20 * n + 40 ≤ 9000; omega)
      | (show A.units + 1 + 20 * n + 40 ≤ 9000; omega)
      | (show A.units + 4 + 20 * n + 40 ≤ 9000; omega)
      | (show A.units + 5 + 20 * n + 40 ≤ 9000; omega)
theorem Call_class {n : Nat} {C : Cs} {vs : List V} {fI : Addr} {oI : Obj} {K} (c : Cls T Cl N mN) (hi : mN "__init__" = some (.ref fI)) (ho : T.h₁.get? fI = some oI) (hne : fI ≠ T.tb) (hoc : oI.cls = .type "function") (rm : Rm A (n + 1))
    (h : ∀ x d A', Rm A' n → Call T A' ((x, .inst Cl d []) :: C) (.ref fI) (.ref x :: vs) (fun v C' => v = .none ∧ K (.ref x) C')) : Call T A C (.ref Cl) vs K := by
  refine ⟨fun s xs k r => ?_⟩
  obtain ⟨nm, q, bs, sn, sub, col, dd, k0, k1, k2, k3, k5, hC⟩ := (c.now k).obj
  have hns := (c.now k).ns
  have hfo := k.top _ _ ho hne
  have key : ∀ h' x dx, Heap.MadeObj s.heap h' x dx Cl → wpAny (Mo T) (A.under (.builtin "type.__call__" ⟨.ref Cl :: xs, []⟩)) (call (.ref fI) (.ref x :: xs)) (fun r s' => r = .none ∧ PostG T C s.heap Rel K (.ref x) s') NoE { s with heap := h' } := by
    intro h' x dx m
    have gr : Grow s { s with heap := h' } := ⟨m.keeps, rfl, rfl⟩
    obtain ⟨o, hx, hc, hnc, hd⟩ := id m.inst
    have hdx := m.dict o hx
    obtain ⟨k', g'⟩ := k.add gr (a := x) (c := .inst Cl dx []) (by
      rcases hd with ⟨z, _⟩ | ⟨d, z, zne, zns⟩
      · rw [hdx] at z; cases z
      · rw [hdx] at z; cases z
        exact ⟨o, _, hx, hc, hnc, hdx, zne, zns, fun y => rfl⟩) (fun b hb => by
      simp only [foot, List.mem_cons, List.not_mem_nil, or_false] at hb
      rcases hb with rfl | rfl
      · exact m.newX
      · exact m.newD) (by
      rcases hd with ⟨z, _⟩ | ⟨d, z, zne, zns⟩
      · rw [hdx] at z; cases z
      · rw [hdx] at z; cases z
        simpa [foot] using fun e => zne e.symm)
    refine wpAny_mono ((h x dx _ (under_make rm)).run _ _ k' ⟨_, _, rfl, rfl, r.keep gr.tup⟩) ?_ fun _ _ e => e
    rintro y s₂ ⟨v, C', ⟨rfl, hK⟩, r₂, k₂, g₂⟩
    cases r₂
    exact ⟨rfl, .ref x, C', hK, rfl, k₂, g'.trans g₂⟩
  obtain ⟨hh, g, dr, t, os⟩ := s
  exact wpAny_call_obj_init F.objNew hC hns hi hfo hoc key
theorem Cls.callee (c : Cls T Cl N mN) (C : Cs) : Callee T C (.ref Cl) := .inr (.inr ⟨Cl, rfl, fun s k => by
  obtain ⟨nm, q, bs, sn, sub, col, dd, k0, k1, k2, k3, k5, hC⟩ := (c.now k).obj
  refine ⟨_, .inr (.inl rfl), fun A Q E s' kp hq => ?_⟩
  have f1 := tc_lookup
  have hT : s'.TypeIs (.ref Cl) "type" := ⟨_, kp _ _ hC, rfl⟩
  have hC' := kp _ _ hC
  obtain ⟨hh, g, d, t, os⟩ := s'
  unfold keeperOf specialOf
  repeat (any_goals (first | assumption | with_reducible refine wpAny_loadPart_at hC' ?_ | with_reducible refine wpAny_load' hC' ?_ | wp_step))⟩)
end
end Mine
end
section
open PySem PySem.Spec PySem.Calls PyProof.Rows PySem.P
namespace Mine
theorem slot_rg_rev : Slot "range" "__reversed__" "range.__reversed__" :=
  .of (owner := "range") (n := "__reversed__") (by rw [typeLookup_type, builtinLookup_eq_fast]; kernel_rfl) (by decide +kernel) (by decide +kernel) (by decide +kernel)
    (by first | exact .inl (by decide +kernel) | exact .inr (by decide +kernel)) (by rw [isSubtype_type]; kernel_rfl)
theorem entry_rg_rev : entryFor table "range.__reversed__" = some Builtin.«range.__reversed__» := entryFor_of_tree (by kernel_rfl)
theorem sub_rgi_rev : isSubtype (.type "range_iterator") (.type "reversed") = pure false := by rw [isSubtype_type]; kernel_rfl
theorem args_rg_rev (a : Value) : argsOk "range.__reversed__" ⟨[a], []⟩ := by
  unfold argsOk; rw [signature?_of (id := "range.__reversed__") (n := ['_', '_', 'd', 'e', 's', 'r', 'e', 'v', 'e', 'r', '_', '_']) (o := ['e', 'g', 'n', 'a', 'r']) (by kernel_rfl) F.owner_range]; kernel_rfl
section
variable {T : TI} {A : Around} {C : Cs}
theorem Call_range {b : Int} {K} (h : ∀ r, K (.ref r) ((r, .rng 0 b 1) :: C)) : Call T A C (.type "range") [.int b] K := by
  refine ⟨fun s xs k r => ?_⟩
  obtain ⟨x, ys, rfl, ⟨t, rfl⟩, e⟩ := r.cons_inv
  cases e
  refine call_range_1 ?_
  obtain ⟨k', g'⟩ := k.add (Grow.push s { cls := .type "range", data := .fields #[.int 0 s.toks, .int b t, .int 1 (s.toks + 1)] } (s.toks + 1 + 1)) (a := s.heap.objs.size) (c := .rng 0 b 1) ⟨_, _, _, IsRange.new ..⟩ (fun b hb => by cases List.mem_singleton.mp hb; exact get?_end _) (by simp [foot])
  exact ⟨_, _, h _, rfl, k', g'⟩
theorem Call_range2 {a b : Int} {K} (h : ∀ r, K (.ref r) ((r, .rng a b 1) :: C)) : Call T A C (.type "range") [.int a, .int b] K := by
  refine ⟨fun s xs k r => ?_⟩
  obtain ⟨x, ys, rfl, ⟨t, rfl⟩, e⟩ := r.cons_inv
  obtain ⟨x, zs, rfl, ⟨u, rfl⟩, e'⟩ := RelL.cons_inv e
  have e' : zs = [] := e'
  subst e'
  refine call_range_2 ?_
  obtain ⟨k', g'⟩ := k.add (Grow.push s { cls := .type "range", data := .fields #[.int a t, .int b u, .int 1 s.toks] } (s.toks + 1)) (a := s.heap.objs.size) (c := .rng a b 1) ⟨_, _, _, IsRange.new ..⟩ (fun b hb => by cases List.mem_singleton.mp hb; exact get?_end _) (by simp [foot])
  exact ⟨_, _, h _, rfl, k', g'⟩
theorem Itr_rng {j : Nat} {r : Addr} {a b : Int} {n : Nat} {K} (hj : C[j]? = some (r, .rng a b 1)) (ha : -(2 ^ 62) ≤ a) (ha' : a < 2 ^ 62) (hb : -(2 ^ 62) ≤ b) (hb' : b < 2 ^ 62) (hn : (n : Int) = if a < b then b - a else 0) (h : ∀ i, K i ((i, .rit a n 1) :: C)) : Itr T A C (.ref r) K := by
  refine ⟨fun s x k r => ?_⟩
  cases r
  obtain ⟨t, u, v, hr⟩ := cell_at k hj
  refine wpAny_pyIter_range hr (small_one ha ha' hb hb') ?_
  obtain ⟨k', g'⟩ := k.add (Grow.push s { cls := .type "range_iterator", data := .fields #[rawInt a, rawInt (Builtin.Range.rangeSize a b 1), rawInt 1] } s.toks) (a := s.heap.objs.size) (c := .rit a n 1) (by rw [rangeSize_one, ← hn]; exact Heap.get?_push_size _ rfl) (fun b hb => by cases List.mem_singleton.mp hb; exact get?_end _) (by simp [foot])
  exact ⟨_, _, h _, rfl, k', g'⟩
theorem Itr_rit {j : Nat} {r : Addr} {x left step : Int} {K} (hj : C[j]? = some (r, .rit x left step)) (h : K r C) : Itr T A C (.ref r) K := by
  refine ⟨fun s x k r => ?_⟩
  cases r
  exact wpAny_pyIter_rangeiter (cell_at k hj) ⟨_, _, h, rfl, k, Go.refl _ _⟩
theorem Call_reversed_rng {j : Nat} {r : Addr} {b : Int} {n : Nat} {K} (hj : C[j]? = some (r, .rng 0 b 1)) (hb' : b < 2 ^ 62) (hn : (n : Int) = if 0 < b then b - 0 else 0) (hb : -(2 ^ 62) ≤ b) (h : ∀ i, K (.ref i) ((i, .rit (n - 1) n (-1)) :: C)) : Call T A C (.type "reversed") [.ref r] K := by
  refine ⟨fun s xs k rr => ?_⟩
  obtain ⟨x, ys, rfl, rx, e⟩ := rr.cons_inv
  cases e; cases rx
  obtain ⟨t, u, v, hr⟩ := cell_at k hj
  have hT : s.TypeIs (.ref r) "range" := ⟨_, hr, rfl⟩
  have hsz := rangeSize_one 0 b
  rw [← hn] at hsz
  refine callType_other (U := "range_iterator") (Q₁ := fun obj s₁ => obj = .ref s.heap.objs.size ∧ s₁ = { s with heap := s.heap.push { cls := .type "range_iterator", data := .fields #[rawInt ((n : Int) - 1), rawInt n, rawInt (-1)] } }) (by decide +kernel) F.create_reversed ⟨_, _, F.mro_reversed⟩ F.made_reversed sub_rgi_rev (F.typeCall_reversed_1 _) ?_ ?_
  · refine codeAny_of_tree ?_
    show wpAny _ A.in1.in1 (do checkBuiltinCall "reversed.__new__" ⟨[.type "reversed", .ref r], []⟩; again (.builtin "reversed.__new__" ⟨[.type "reversed", .ref r], []⟩)) _ _ s
    refine wpAny_bind (wpAny_of_eq (F.newCall_reversed_1 _) (wpAny_pure ⟨plainId_quiet F.plain_reversed_new _, codeAny_builtin F.entry_reversed_new ?_⟩))
    rw [Around.under_plainId F.plain_reversed_new _]
    unfold Builtin.«reversed.__new__»
    refine wpAny_bind (wpAny_of_eq (newClass_reversed _) ?_)
    try dsimp only
    refine wpAny_bind (wpAny_of_eq (a := ()) (by first | rfl | kernel_rfl) ?_)
    refine wpAny_bind (wpAny_of_eq (a := ()) (by first | rfl | kernel_rfl) ?_)
    try dsimp only
    refine wpAny_bind (wpAny_specialOf hT slot_rg_rev.lookup ?_)
    try dsimp only
    refine wpAny_bind (wpAny_of_eq (slot_rg_rev.bind _) ?_)
    try dsimp only
    first
    | rw [if_neg (show ¬ ((Value.builtin "range.__reversed__" == Value.none) = true) from Bool.false_ne_true)]
    | (show wpAny _ _ (if (Value.builtin "range.__reversed__" == Value.none) = true then _ else _) _ _ _; rw [if_neg (show ¬ ((Value.builtin "range.__reversed__" == Value.none) = true) from Bool.false_ne_true)])
    refine wpAny_bind (wpAny_rule ?_)
    have fin : wpAny (model T.prog T.w) A.in1.in1 (call (.builtin "range.__reversed__") [.ref r]) (fun obj s₁ => obj = .ref s.heap.objs.size ∧ s₁ = { s with heap := s.heap.push { cls := .type "range_iterator", data := .fields #[rawInt ((n : Int) - 1), rawInt n, rawInt (-1)] } }) NoE s := by
      refine wpAny_call_entry slot_rg_rev hT entry_rg_rev ?_ (args_rg_rev _)
      obtain ⟨hh, g, d, tk, os⟩ := s
      unfold Builtin.«range.__reversed__»
      repeat (any_goals (first | assumption | with_reducible refine wpAny_loadPart_at hr ?_ | wp_step))
      have fit : (Builtin.Range.rangeFitsLong 0 && Builtin.Range.rangeFitsLong b && Builtin.Range.rangeFitsLong 1 && Builtin.Range.rangeFitsLong (-1) && Builtin.Range.rangeFitsLong (0 - 1) && Builtin.Range.rangeFitsLong (Builtin.Range.rangeSize 0 b 1)) = true := by
        rw [hsz, hn]
        simp only [Builtin.Range.rangeFitsLong, Bool.and_eq_true, decide_eq_true_eq]
        split <;> omega
      rw [fit, hsz, if_neg (by decide), if_pos rfl, show (0 : Int) + ((n : Int) - 1) * 1 = n - 1 by omega]
      exact wpAny_bind (wpAny_newObj_type (wpAny_pure ⟨_, rfl, rfl, rfl⟩))
    refine wpAny_bind (m := runValue (.call (.builtin "range.__reversed__") ⟨[.ref r], []⟩)) (show wpAny _ _ (call (.builtin "range.__reversed__") [.ref r]) _ _ _ from wpAny_mono fin ?_ fun _ _ e => e.elim)
    rintro _ _ ⟨rfl, rfl⟩
    first
    | exact wpAny_pure ⟨rfl, rfl⟩
    | exact wpAny_bind (wpAny_pure (wpAny_pure ⟨rfl, rfl⟩))
  · rintro obj s₁ ⟨rfl, rfl⟩
    obtain ⟨k', g'⟩ := k.add (Grow.push s { cls := .type "range_iterator", data := .fields #[rawInt ((n : Int) - 1), rawInt n, rawInt (-1)] } s.toks) (a := s.heap.objs.size) (c := .rit (n - 1) n (-1)) (Heap.get?_push_size _ rfl) (fun b hb => by cases List.mem_singleton.mp hb; exact get?_end _) (by simp [foot])
    exact ⟨⟨_, Heap.get?_push_size _ rfl, rfl⟩, _, _, h _, rfl, k', g'⟩
/-! tuples -/
theorem Call_enumerate_list {j : Nat} {l : Addr} {vs : List V} {K} (hj : C[j]? = some (l, .list vs)) (h : ∀ e it, K (.ref e) ((e, .enl it l 0) :: C)) : Call T A C (.type "enumerate") [.ref l] K := by
  refine ⟨fun s xs k rr => ?_⟩
  obtain ⟨x, ys, rfl, rx, e⟩ := rr.cons_inv
  cases e; cases rx
  obtain ⟨items, nn, hl, r⟩ := cell_at k hj
  refine call_enumerate_list hl.isList fun h' he hi hz hk => ?_
  obtain ⟨k', g'⟩ := k.add (s' := { s with heap := h' }) ⟨hk, rfl, rfl⟩ (a := s.heap.objs.size + 1) (c := .enl s.heap.objs.size l 0) ⟨⟨_, he⟩, hi⟩ (fun b hb => by
    simp only [foot, List.mem_cons, List.not_mem_nil, or_false] at hb
    rcases hb with rfl | rfl
    · exact Heap.get?_none_of_le (Nat.le_succ _)
    · exact get?_end _) (by simp [foot])
  exact ⟨_, _, h _ _, rfl, k', g'⟩
theorem Itr_enl {j : Nat} {e it l : Addr} {i : Nat} {K} (hj : C[j]? = some (e, .enl it l i)) (h : K e C) : Itr T A C (.ref e) K := by
  refine ⟨fun s x k r => ?_⟩
  cases r
  obtain ⟨⟨old, he⟩, _⟩ := cell_at k hj
  exact wpAny_pyIter_enum he ⟨_, _, h, rfl, k, Go.refl _ _⟩
theorem foot_ne {T : TI} {C : Cs} {s : Shared} {i : Nat} {a b : Addr} {c : Cell} (k : Ok T C s) (hi : C[i]? = some (a, c)) (hf : foot a c = [a, b]) : a ≠ b := by
  obtain ⟨p, _⟩ := set_perm (y := (a, c)) hi
  have := (k.perm p).nd
  intro e; subst e
  rw [List.cons_append, foots_cons, hf] at this
  simp at this
theorem Nt_enl {i j n : Nat} {e it l : Addr} {vs : List V} {v : V} {ts : List Expr} {kd} {pos : Pos} {K} (hi : C[i]? = some (e, .enl it l n)) (hj : C[j]? = some (l, .list vs)) (hv : vs[n]? = some v)
    (h : K (some (.tup [.int n, v])) (C.set i (e, .enl it l (n + 1)))) : Nt T A C (.Tuple ts kd pos) (.ref e) K := by
  refine ⟨fun s k => ?_⟩
  obtain ⟨⟨old, he⟩, hit⟩ := cell_at k hi
  obtain ⟨items, nn, hl, r⟩ := cell_at k hj
  obtain ⟨x, hx, rx⟩ := r.get hv
  refine wpAny_pyNext_enum_item he hit hl.isList (by simpa using hx) (foot_ne k hi rfl) fun h' he' hit' ht hz hk => ?_
  refine wpAny_letOwnedTupleGo_enum he' fun h'' he'' hs => ?_
  have hsz : s.heap.objs.size ≠ e := fun z => by
    have he' : s.heap.get? e = some _ := he
    rw [← z, show s.heap.get? s.heap.objs.size = none from get?_end _] at he'; cases he'
  have ht' : h''.get? s.heap.objs.size = some { cls := .type "tuple", data := .seq #[.int n s.toks, x] } := (hs.2 _ hsz).trans ht
  obtain ⟨k', g'⟩ := k.upd (c' := .enl it l (n + 1)) (s' := { s with heap := h'', toks := s.toks + 1 }) hi (fun b o z hb => by
    simp only [foot, List.mem_cons, List.not_mem_nil, or_false, not_or] at hb
    exact (hs.2 b hb.1).trans (hk b o hb.1 hb.2 z)) (fun _ => ⟨⟨_, he''⟩, hit'.extBut hs.extBut (foot_ne k hi rfl).symm⟩) rfl rfl rfl
  exact ⟨_, _, h, ⟨_, rfl, _, _, _, rfl, ht', ⟨_, _, rfl, ⟨_, rfl⟩, _, _, rfl, rx.keep (g'.tup k), rfl⟩⟩, k', g'⟩
theorem Nt_enl_end {m i j n : Nat} {e it l : Addr} {vs : List V} {target : Expr} {K} (rm : Rm A m) (hi : C[i]? = some (e, .enl it l n)) (hj : C[j]? = some (l, .list vs)) (hv : vs[n]? = none) (h : K .none (C.eraseIdx i)) : Nt T A C target (.ref e) K := by
  refine ⟨fun s k => ?_⟩
  obtain ⟨⟨old, he⟩, hit⟩ := cell_at k hi
  obtain ⟨items, nn, hl, r⟩ := cell_at k hj
  have hlen := r.length
  rw [Array.length_toList] at hlen
  refine wpAny_pyNext_enum_end rm.handled he hit hl.isList (by simp at hv ⊢; omega) fun h' hs => ?_
  obtain ⟨k', g'⟩ := k.lose (s' := { s with heap := h' }) hi (fun b o e hb => hs b o (fun z => hb (z ▸ .tail _ (.head _))) e) rfl rfl
  exact ⟨_, _, h, rfl, k', g'⟩
theorem Itr_str {x : Str} {K} (ha : x.cps.all (· < 128) = true) (h : ∀ i, K i ((i, .sit x 0) :: C)) : Itr T A C (.str x) K := by
  refine ⟨fun s y k r => ?_⟩
  obtain ⟨t, rfl⟩ := r
  refine wpAny_pyIter_ascii ha ?_
  obtain ⟨k', g'⟩ := k.add (Grow.push s { cls := .type "str_ascii_iterator", data := .fields #[.str x t, .int 0 0] } s.toks) (a := s.heap.objs.size) (c := .sit x 0) ⟨t, _, Heap.get?_push_size _ rfl, rfl, rfl⟩ (fun b hb => by cases List.mem_singleton.mp hb; exact get?_end _) (by simp [foot])
  exact ⟨_, _, h _, rfl, k', g'⟩
end
end Mine
end
section
open PySem PySem.Spec PySem.Calls PyProof.Rows PySem.P
open Builtin Builtin.Str
namespace Mine
/-- a text of code points -/
noncomputable def S (l : List Nat) : Str := ⟨l.toArray⟩
theorem S_cps (l : List Nat) : (S l).cps.toList = l := by simp [S]
theorem S_len (l : List Nat) : (S l).length = l.length := by simp [S, Str.length]
theorem S_app (a b : List Nat) : S a ++ S b = S (a ++ b) := by
  show Str.append _ _ = _
  simp [S, Str.append]
theorem S_beq (a b : List Nat) : (S a == S b) = (a == b) := by
  rw [Bool.eq_iff_iff]
  simp only [beq_iff_eq]
  constructor
  · intro h
    have := congrArg (·.cps.toList) h
    simpa [S] using this
  · rintro rfl; rfl
theorem count_go (a : List Nat) (c : Nat) : ∀ (m k : Nat) (acc : Array Nat) (free : Nat), k + m = a.length + 1 → free ≤ k → acc.size ≤ k →
    (forIn (List.range' k m) (acc, free) (PySem.StrLaws.occBody (S a) (S [c]) a.length (a.length + 1))).run.fst.size = acc.size + (a.drop k).count c
  | 0, k, acc, free, h1, h2, h3 => by
    rw [List.drop_eq_nil_of_le (by omega)]
    simp
  | m + 1, k, acc, free, h1, h2, h3 => by
    rw [List.range'_succ, List.forIn_cons]
    unfold PySem.StrLaws.occBody
    have hs1 : (S [c]).length = 1 := rfl
    by_cases hk : k < a.length
    · have hd : a.drop k = a[k] :: a.drop (k + 1) := (List.getElem_cons_drop hk).symm
      have hsub : subAt (S a) (S [c]) k = (a[k] == c) := by
        unfold subAt
        rw [hs1, Bool.eq_iff_iff]
        simp only [beq_iff_eq]
        have : (S a).cps.extract k (k + 1) = #[a[k]] := by
          apply Array.ext
          · simp [S]; omega
          · intro i h1 h2
            simp at h2
            subst h2
            simp [S]
        rw [this]
        simp [S]
      by_cases hc : a[k] = c
      · rw [if_pos ⟨⟨⟨by show acc.size < _; omega, h2⟩, by rw [hs1]; omega⟩, by rw [hsub]; simpa using hc⟩]
        have ih := count_go a c m (k + 1) (acc.push k) (k + 1) (by omega) (by omega) (by simp; omega)
        rw [hd, List.count_cons]
        simp only [hc, beq_self_eq_true, if_true]
        simp only [Array.size_push] at ih
        rw [show acc.size + (List.count c (a.drop (k + 1)) + 1) = acc.size + 1 + List.count c (a.drop (k + 1)) by omega, ← ih]
        rfl
      · rw [if_neg (by rw [hsub]; intro z; exact hc (by simpa using z.2))]
        have ih := count_go a c m (k + 1) acc free (by omega) (by omega) (by omega)
        rw [hd, List.count_cons]
        have : (a[k] == c) = false := by simpa using hc
        rw [this]
        simp only [Bool.false_eq_true, if_false, Nat.add_zero]
        exact ih
    · rw [if_neg (by rw [hs1]; intro z; have := z.1.2; omega)]
      have ih := count_go a c m (k + 1) acc free (by omega) (by omega) (by omega)
      rw [List.drop_eq_nil_of_le (by omega)] at ih ⊢
      exact ih
theorem count_one (a : List Nat) (c : Nat) : (occurrences (S a) (S [c]) 0 (S a).length ((S a).length + 1)).length = a.count c := by
  rw [PySem.StrLaws.occ_eq, S_len]
  have := count_go a c (a.length + 1) 0 #[] 0 (by omega) (by omega) (by simp)
  simpa using this
section
variable {T : TI} {A : Around} {C : Cs} {value slice : Expr}
theorem O_adds {a b : List Nat} {K} (hs : a.length + b.length ≤ 1000000) (h : K (.str (S (a ++ b))) C) : OpB T A C .Add (.str (S a)) (.str (S b)) K := by
  refine ⟨?_⟩
  rintro s _ _ k ⟨t, rfl⟩ ⟨u, rfl⟩
  refine PyProof.Rows.add_str (fun t' tk => ?_) (by rw [S_len, S_len, sizeLine_eq]; omega)
  rw [S_app]
  exact ret_growC h k (Grow.tok s _) ⟨_, rfl⟩
theorem O_iadds {a b : List Nat} {K} (hs : a.length + b.length ≤ 1000000) (h : K (.str (S (a ++ b))) C) : OpI T A C .Add (.str (S a)) (.str (S b)) K := by
  refine ⟨?_⟩
  rintro s _ _ k ⟨t, rfl⟩ ⟨u, rfl⟩
  refine PyProof.Rows.iadd_str (fun t' tk => ?_) (by rw [S_len, S_len, sizeLine_eq]; omega)
  rw [S_app]
  exact ret_growC h k (Grow.tok s _) ⟨_, rfl⟩
theorem O_eqS {a b : List Nat} {K} (h : K (.bool (a == b)) C) : OpC T A C .Eq (.str (S a)) (.str (S b)) K := O_eqs (by rw [S_beq]; exact h)
theorem O_inS {c : Nat} {b : List Nat} {K} (h : K (.bool (decide (c ∈ b))) C) : OpC T A C .In (.str (S [c])) (.str (S b)) K := O_ins (by
  rw [show S [c] = ⟨#[c]⟩ from rfl, PySem.StrLaws.found_one, S_cps]; exact h)
/-- a prefix -/
structure OpU (T : TI) (A : Around) (C : Cs) (value slice : Expr) (v w : V) (K : V → Cs → Prop) : Prop where
  run : ∀ s x y, Ok T C s → Rel s.heap v x → Rel s.heap w y → wpAny (Mo T) A (subscriptTail value slice x (.ref s.heap.objs.size)) (PostG T C s.heap Rel K) NoE { s with heap := s.heap.push { cls := .type "slice", data := .fields #[.none, y, .none] } }
theorem Ev_upto {env : Env} {ℓ : Lo} {H : Cs} {value upper : Expr} {p pos : Pos} {K}
    (h : Ev T A env ℓ H value fun v H₁ => Ev T A env ℓ H₁ upper fun w H₂ => OpU T A (lc env ℓ :: H₂) value (.Slice none (some upper) none p) v w (inH env ℓ K)) : Ev T A env ℓ H (.Subscript value (.Slice none (some upper) none p) pos) K := by
  refine ⟨fun s k => ?_⟩
  refine Subscript_ (wpAny_mono (h.run s k) ?_ fun _ _ e => e)
  refine fun x s₁ p₀ => p₀.inE fun v H₁ hK r₁ k₁ g₁ => ?_
  refine wpAny_Slice (wpAny_pure (wpAny_mono (hK.run s₁ k₁) ?_ fun _ _ e => e))
  refine fun y s₂ p₀ => p₀.inE fun w H₂ hK₂ r₂ k₂ g₂ => ?_
  refine wpAny_pure (wpAny_mono (hK₂.run s₂ x y k₂ (r₁.keep (g₂.tup k₁)) r₂) (fun _ _ p => p.trans (g₁.trans g₂)) fun _ _ e => e)
theorem slicePick_up (items : Array Value) (n : Int) (h0 : 0 ≤ n) : (slicePick items none (some n) none).toList = items.toList.take n.toNat := by
  obtain ⟨b, rfl⟩ := Int.eq_ofNat_of_zero_le h0
  by_cases hb : b ≤ items.size
  · have := slicePick_upto items b hb
    rw [this]
    simp
  · have e : sliceBounds none (some (b : Int)) none items.size = (((0 : Nat) : Int), (items.size : Int), 1) := by
      simp only [sliceBounds, Option.getD_none]
      have h2 : ¬ ((b : Int) < 0) := by omega
      simp only [h2, if_false, show (1 : Int) > 0 by decide, if_true]
      congr 1
      congr 1; omega
    unfold slicePick
    rw [e]
    simp only [sliceRange_one, pick_run]
    simp
    omega
theorem O_upto_list {i : Nat} {a : Addr} {vs : List V} {n : Int} {K} (hi : C[i]? = some (a, .list vs)) (h0 : 0 ≤ n) (hn : vs.length ≤ 1000000) (h : ∀ b, K (.ref b) ((b, .list (vs.take n.toNat)) :: C))
    (hs : ∀ o i, subscripted slice false o i = operate [i, o] (getItem o i) := by intro _ _; rfl) : OpU T A C value slice (.ref a) (.int n) K := by
  refine ⟨?_⟩
  rintro s _ _ k rfl ⟨u, rfl⟩
  obtain ⟨items, nn, hl, r⟩ := cell_at k hi
  have hlen := r.length
  rw [Array.length_toList] at hlen
  have gr := Grow.push s { cls := .type "slice", data := .fields #[.none, .int n u, .none] } s.toks
  have hl' := hl.isList.push { cls := .type "slice", data := .fields #[.none, .int n u, .none] }
  refine tail_any (T := "list") (Heap.IsList.typeIs (s := { s with heap := s.heap.push _ }) hl') slot_list_getitem.lookup (wpAny_getItem_list_slice hl' (Heap.IsSliceOf.new ..) .none (.int n u) .none (by simp) ?_ (by rw [sizeLine_eq]; omega)) (hs _ _)
  obtain ⟨k₁, g₁⟩ := k.grow gr
  have gr₂ := Grow.push { s with heap := s.heap.push { cls := .type "slice", data := .fields #[.none, .int n u, .none] } } { cls := .type "list", data := .seq (slicePick items none (some n) none) } s.toks
  obtain ⟨k', g'⟩ := k₁.add gr₂ (a := _) (c := .list (vs.take n.toNat)) ⟨_, _, Heap.get?_push_size _ rfl, by rw [slicePick_up _ _ h0]; exact ((r.take _).keep gr.tup).keep gr₂.tup⟩ (fun b hb => by cases List.mem_singleton.mp hb; exact get?_end _) (by simp [foot])
  exact ⟨_, _, h _, rfl, k', g₁.trans g'⟩
theorem Call_count {a : List Nat} {c : Nat} {K} (h : K (.int (a.count c)) C) : Call T A C (.builtin "str.count") [.str (S a), .str (S [c])] K := by
  refine ⟨fun s xs k r => ?_⟩
  obtain ⟨x, ys, rfl, ⟨t, rfl⟩, r'⟩ := r.cons_inv
  obtain ⟨x, ys, rfl, ⟨u, rfl⟩, r''⟩ := r'.cons_inv
  cases r''.nil_inv
  refine SC.count ?_
  have e : Txt.count (S a) (S [c]) = (a.count c : Int) := congrArg Int.ofNat (count_one a c)
  rw [e]
  exact ret_growC h k (Grow.tok s _) ⟨_, rfl⟩
end
end Mine
end
section
open PySem PySem.Spec PySem.Calls PyProof.Rows PySem.P
open Builtin Builtin.Str
namespace Mine
noncomputable def sV (ls : List (List Nat)) : List V := ls.map fun l => .str (S l)
theorem sV_rel {h : Heap} : ∀ {ls : List (List Nat)} {xs : List Value}, RelL h (sV ls) xs → ∃ l : List (Str × Tok), xs = strValues l ∧ l.map (·.1) = ls.map S
  | [], xs, r => ⟨[], by simpa [sV, RelL, strValues] using r, rfl⟩
  | a :: ls, xs, r => by
    obtain ⟨x, ys, rfl, ⟨t, rfl⟩, r'⟩ := RelL.cons_inv (v := .str (S a)) (vs := sV ls) r
    obtain ⟨l, rfl, e⟩ := sV_rel r'
    exact ⟨(S a, t) :: l, rfl, by simp [e]⟩
theorem glued_nil_go : ∀ (ls : List (List Nat)) (acc : List Nat), (ls.map S).foldl (fun acc p => acc ++ (S []).cps ++ p.cps) acc.toArray = (acc ++ ls.flatten).toArray
  | [], acc => by simp
  | a :: ls, acc => by
    have := glued_nil_go ls (acc ++ a)
    simp only [List.map_cons, List.foldl_cons, List.flatten_cons]
    rw [show acc.toArray ++ (S []).cps ++ (S a).cps = (acc ++ a).toArray by simp [S], this]
    simp
theorem glued_nil (ls : List (List Nat)) : glued (S []) (ls.map S) = S ls.flatten := by
  cases ls with
  | nil => rfl
  | cons a ls =>
    unfold glued
    have := glued_nil_go ls a
    simp only [List.map_cons, List.drop_succ_cons, List.drop_zero, List.headD_cons, List.flatten_cons]
    rw [show (S a).cps = a.toArray from rfl, this]; rfl
theorem join_fold : ∀ (ls : List (List Nat)) (n : Nat), (ls.map S).foldl (fun n s => n + s.length + (S []).length) n = n + ls.flatten.length
  | [], n => by simp
  | a :: ls, n => by
    simp only [List.map_cons, List.foldl_cons, List.flatten_cons, List.length_append]
    rw [join_fold ls, S_len, S_len]
    simp; omega
theorem RelL.of_get {h : Heap} {vs : List V} : ∀ {xs : List Value}, vs.length = xs.length → (∀ (i : Nat) v x, vs[i]? = some v → xs[i]? = some x → Rel h v x) → RelL h vs xs := by
  induction vs with
  | nil =>
    intro xs e _
    rw [List.length_eq_zero_iff.mp e.symm]
    simp [RelL]
  | cons v vs ihv =>
    intro xs e p
    cases xs with
    | nil => cases e
    | cons x xs =>
      simp only [RelL]
      exact ⟨x, xs, rfl, p 0 v x rfl rfl, ihv (Nat.succ.inj e) fun i v' x' a b => p (i + 1) v' x' (by simpa using a) (by simpa using b)⟩
section
variable {T : TI} {A : Around} {C : Cs} {value slice : Expr}
theorem Call_join {i : Nat} {a : Addr} {ls : List (List Nat)} {K} (hi : C[i]? = some (a, .list (sV ls))) (hn : ls.flatten.length ≤ 1000000) (h : K (.str (S ls.flatten)) C) : Call T A C (.builtin "str.join") [.str (S []), .ref a] K := by
  refine ⟨fun s xs k r => ?_⟩
  obtain ⟨x, ys, rfl, ⟨t, rfl⟩, r'⟩ := r.cons_inv
  obtain ⟨x, ys, rfl, rx, r''⟩ := r'.cons_inv
  cases r''.nil_inv
  cases rx
  obtain ⟨items, n, hl, rl⟩ := cell_at k hi
  obtain ⟨l, e, e'⟩ := sV_rel rl
  have hl' : s.heap.IsList a (strValues l).toArray := by
    rw [← e]; simpa using hl.isList
  refine SC.join hl' e' ?_ fun t' tk => ?_
  · unfold JoinOk tooLong
    simp only [List.foldl_toArray, Bool.not_eq_true', decide_eq_false_iff_not]
    have := join_fold ls 0
    have e0 : (List.foldl (fun (x1 : Nat) (x2 : Str) => x1 + x2.length + (S []).length) 0 (List.map S ls)) = ls.flatten.length := by rw [this]; omega
    rw [e0, sizeLine_eq]; omega
  · have e2 : Txt.join (S []) (ls.map S) = S ls.flatten := glued_nil ls
    rw [e2]
    exact ret_growC h k (Grow.tok s _) ⟨_, rfl⟩
/-- list(text) -/
theorem Call_listS {m : Nat} {a : List Nat} {K} (rm : Rm A m) (hn : a.length ≤ 1000000) (h : ∀ b, K (.ref b) ((b, .list (sV (a.map fun c => [c]))) :: C)) : Call T A C (.type "list") [.str (S a)] K := by
  refine ⟨fun s xs k r => ?_⟩
  obtain ⟨x, ys, rfl, ⟨t, rfl⟩, r'⟩ := r.cons_inv
  cases r'.nil_inv
  refine call_list_str rm.handled (S a) t (fun h' tk acc' c' hk hS hacc => ?_) (by show (S a).length ≤ _; rw [S_len, sizeLine_eq]; omega)
  have hsz : acc'.size = a.length := by rw [hacc.1]; exact S_len a
  have gr : Grow s { s with heap := h', toks := tk } := ⟨hk, rfl, rfl⟩
  obtain ⟨k', g'⟩ := k.add gr (a := s.heap.objs.size) (c := .list (sV (a.map fun c => [c]))) ⟨acc', c', hS, RelL.of_get (by simp [sV, hsz]) fun i v x hv hx => by
    obtain ⟨c, u, hc, rfl⟩ := hacc.2 i x (by simpa using hx)
    simp only [sV, List.map_map, List.getElem?_map, Option.map_eq_some_iff] at hv
    obtain ⟨c₂, hc₂, rfl⟩ := hv
    have : a[i]? = some c := by simpa [S] using hc
    rw [this] at hc₂; cases hc₂
    exact ⟨u, rfl⟩⟩ (fun b hb => by cases List.mem_singleton.mp hb; exact get?_end _) (by simp [foot])
  exact ⟨_, _, h _, rfl, k', g'⟩
/-- list + list -/
theorem O_addl {i j : Nat} {a b : Addr} {vs ws : List V} {K} (hi : C[i]? = some (a, .list vs)) (hj : C[j]? = some (b, .list ws)) (hn : vs.length + ws.length ≤ 1000000) (h : ∀ c, K (.ref c) ((c, .list (vs ++ ws)) :: C)) : OpB T A C .Add (.ref a) (.ref b) K := by
  refine ⟨?_⟩
  rintro s _ _ k rfl rfl
  obtain ⟨items, n, hl, r⟩ := cell_at k hi
  obtain ⟨items2, n2, hl2, r2⟩ := cell_at k hj
  have e1 := r.length
  have e2 := r2.length
  rw [Array.length_toList] at e1 e2
  refine PySem.P.add_list hl hl2 ?_ (by rw [sizeLine_eq]; omega)
  have gr := Grow.push s { cls := .type "list", data := .seq (items ++ items2) } s.toks
  obtain ⟨k', g'⟩ := k.add gr (a := s.heap.objs.size) (c := .list (vs ++ ws)) ⟨_, _, Heap.get?_push_size _ rfl, by simpa using (r.keep gr.tup).append (r2.keep gr.tup)⟩ (fun b hb => by cases List.mem_singleton.mp hb; exact get?_end _) (by simp [foot])
  exact ⟨_, _, h _, rfl, k', g'⟩
end
end Mine
end
section
open PySem PySem.Spec PySem.Calls PyProof.Rows PySem.P
namespace Mine
/-- an iterator is its own iterator -/
noncomputable def SelfIt (T : TI) (C : Cs) (a : Addr) : Prop := ∀ (A : Around) (s : Shared) (Q : Value → Shared → Prop), Ok T C s → Q (.ref a) s → wpAny (Mo T) A (pyIter (.ref a)) Q NoE s
theorem Self_lit {T : TI} {C : Cs} {i n : Nat} {a l : Addr} (hi : C[i]? = some (a, .lit l n)) : SelfIt T C a := fun A s Q k q => wpAny_pyIter_listiter (cell_at k hi) q
theorem Self_rit {T : TI} {C : Cs} {i : Nat} {a : Addr} {x y z : Int} (hi : C[i]? = some (a, .rit x y z)) : SelfIt T C a := fun A s Q k q => wpAny_pyIter_rangeiter (cell_at k hi) q
theorem Self_enl {T : TI} {C : Cs} {i n : Nat} {a it l : Addr} (hi : C[i]? = some (a, .enl it l n)) : SelfIt T C a := fun A s Q k q => by
  obtain ⟨⟨old, he⟩, _⟩ := cell_at k hi
  exact wpAny_pyIter_enum he q
/-- a comprehension under way -/
structure Cm (T : TI) (A : Around) (env : Env) (ℓ : Lo) (H : Cs) (elt target iter : Expr) (scope : Scope) (pos : Pos) (it : Value) (D : Addr) (K : Cs → Prop) : Prop where
  run : ∀ s, Ok T (lc env ℓ :: H) s → codeAny (Mo T) A (.compLoop (.ListComp elt [⟨target, iter, [], 0⟩] scope pos) 0 it (.ref D) env) (fun r s' => ∃ f, r = .ok f ∧ ∃ ℓ' H', K H' ∧ Ok T (lc env ℓ' :: H') s' ∧ Go (lc env ℓ :: H) s.heap (lc env ℓ' :: H') s'.heap) s
noncomputable def cmK (T : TI) (A : Around) (env : Env) (ℓ : Lo) (elt target iter : Expr) (scope : Scope) (pos : Pos) (it : Value) (D : Addr) (K : Cs → Prop) : Option V → Cs → Prop
  | .none, H => K H
  | some v, H => Asn T A env ℓ H target v fun ℓ₂ H₂ => Ev T A env ℓ₂ H₂ elt fun w H₃ => ∃ j vs, H₃[j]? = some (D, .list vs) ∧ vs.length ≤ 1000000 ∧ Cm T A env ℓ₂ (H₃.set j (D, .list (vs ++ [w]))) elt target iter scope pos it D K
theorem Cm_step {T : TI} {A : Around} {env : Env} {ℓ : Lo} {H : Cs} {elt target iter : Expr} {scope : Scope} {pos : Pos} {it : Value} {D : Addr} {K : Cs → Prop}
    (h : Nt T A (lc env ℓ :: H) target it (inH env ℓ (cmK T A env ℓ elt target iter scope pos it D K))) : Cm T A env ℓ H elt target iter scope pos it D K := by
  refine ⟨fun s k => ?_⟩
  refine codeAny_of_tree ?_
  show wpAny _ A ((compTurn (.ListComp elt [⟨target, iter, [], 0⟩] scope pos) 0 it (.ref D) env).onRaise (fun x => do noteFrame x env; theTreesLotGoes x)) _ _ s
  refine wpAny_noted (wpAny_mono (E := NoE) ?_ (fun _ _ q => q) fun _ _ e => e.elim)
  rw [compTurn_list1]
  refine wpAny_bind (wpAny_standAt (wpAny_bind (wpAny_mono (h.run s k) (fun o s₁ p => ?_) fun _ _ e => e)))
  cases o with
  | none =>
    obtain ⟨v, _, ⟨H₁, rfl, hK⟩, r₁, k₁, g₁⟩ := p
    cases v with
    | some v => obtain ⟨y, e, _⟩ := r₁; cases e
    | none => exact wpAny_pure ⟨_, rfl, ℓ, H₁, hK, k₁, g₁⟩
  | some x =>
    refine wpAny_bind (wpAny_mono p (fun _ s₂ q => ?_) fun _ _ e => e)
    obtain ⟨v, _, ⟨H₁, rfl, hK⟩, r₁, k₁, g₁⟩ := q
    cases v with
    | none => cases r₁
    | some v =>
      obtain ⟨y, e, ry⟩ := r₁
      cases e
      refine wpAny_bind (wpAny_mono (Asn.run hK s₂ x k₁ ry) ?_ fun _ _ e => e)
      rintro _ s₃ ⟨ℓ₂, H₂, hK₂, k₂, g₂⟩
      refine wpAny_bind (wpAny_bind (wpAny_mono (hK₂.run s₃ k₂) ?_ fun _ _ e => e))
      refine fun z s₄ p₀ => p₀.inE fun w H₃ hh₀ r₃ k₃ g₃ => ?_
      obtain ⟨j, vs, hj, hn, hC⟩ := hh₀
      have hj' : (lc env ℓ₂ :: H₃)[j + 1]? = some (D, Cell.list vs) := by simpa using hj
      have cl : Call T A (lc env ℓ₂ :: H₃) (.builtin "list.append") [.ref D, w] (fun _ C' => C' = lc env ℓ₂ :: H₃.set j (D, .list (vs ++ [w]))) := Call_append hj' hn rfl
      refine wpAny_bind (wpAny_mono (cl.run s₄ [.ref D, z] k₃ ⟨_, _, rfl, rfl, _, _, rfl, r₃, rfl⟩) ?_ fun _ _ e => e)
      rintro _ s₅ ⟨_, _, rfl, _, k₄, g₄⟩
      have g := ((g₁.trans g₂).trans g₃).trans g₄
      exact wpAny_pure (wpAny_pure ⟨rfl, codeAny_mono (hC.run s₅ k₄) fun r s' ⟨f, e, ℓ', H', q, k', g'⟩ => ⟨f, e, ℓ', H', q, k', g.trans g'⟩⟩)
theorem own_comp (scope : Scope) (cl : List (Str × Addr)) (L : Addr) (env : Env) : ownCells (compEnvC scope cl L env) = [] := rfl
theorem Ok.comp {T : TI} {cenv : Env} {ℓ : Lo} {C : Cs} {s : Shared} {h' : Heap} (ho : ownCells cenv = []) (k : Ok T (lc cenv ℓ :: C) s) (hs : Heap.SameBut cenv.locals s.heap h') : Ok T C { s with heap := h' } ∧ Go (lc cenv ℓ :: C) s.heap C h' :=
  k.lose (i := 0) (s' := { s with heap := h' }) rfl (fun b o e hb => (hs.2 b fun z => hb (by rw [z]; exact .head _)).trans e) rfl rfl
noncomputable def lateK (T : TI) (A : Around) (env : Env) (ℓ : Lo) (H : Cs) (elt target iter : Expr) (scope : Scope) (cl : List (Str × Addr)) (pos : Pos) (K : Addr → Cs → Prop) : Prop :=
  Ev T A env ℓ H iter fun v H₁ => Itr T A (lc env ℓ :: H₁) v fun a C' => ∃ H₂, C' = lc env ℓ :: H₂ ∧ ∀ D L, SelfIt T (lc (compEnvC scope cl L env) [] :: lc env ℓ :: (D, .list []) :: H₂) a ∧
      Cm T A (compEnvC scope cl L env) [] (lc env ℓ :: (D, .list []) :: H₂) elt target iter scope pos (.ref a) D (fun H' => ∃ H'', H' = lc env ℓ :: H'' ∧ K D H'')
theorem comp_any {T : TI} {A : Around} {env : Env} {ℓ : Lo} {H : Cs} {elt target iter : Expr} {scope : Scope} {cl : List (Str × Addr)} {pos pos' : Pos} {K : Addr → Cs → Prop} {use : Option (Value → Sem Unit)} {Q : Value → Shared → Prop} {s : Shared} (k : Ok T (lc env ℓ :: H) s)
    (h : lateK T A env ℓ H elt target iter scope cl pos K)
    (hQ : ∀ D L ℓ' H' s', K D H' → Ok T (lc (compEnvC scope cl L env) ℓ' :: lc env ℓ :: H') s' → Go (lc env ℓ :: H) s.heap (lc (compEnvC scope cl L env) ℓ' :: lc env ℓ :: H') s'.heap → compPost (Mo T) A NoE use Q (.ref D) L (.ok .next) s')
    (hclos : closureFor scope env = pure cl) (hcell : ∀ x ∈ scope.names, x.2 ≠ .cell) (hkind : scope.kind = .function) (hnames : ∀ x ∈ scope.names, x.2 = .local → scope.names.lookup x.1 = some .local)
    (hs : ∀ x, foldedSetIterable iter env x = pure x) : wpAny (Mo T) A (comprehension (.ListComp elt [⟨target, iter, [], 0⟩] scope pos) scope env pos' (newList []) false (eval iter env) use) Q NoE s := by
  refine wpAny_comprehension_free (use := use) rfl hs hclos hkind hnames (wpAny_mono (Ev.run h s k) ?_ fun _ _ e => e)
  refine fun x s₁ p₀ => p₀.inE fun v H₁ hI r₁ k₁ g₁ => ?_
  refine wpAny_mono (hI.run s₁ x k₁ r₁) ?_ fun _ _ e => e
  rintro _ s₂ ⟨a, _, ⟨H₂, rfl, hC⟩, rfl, k₂, g₂⟩
  refine wpAny_newObj_type ?_
  obtain ⟨k₃, g₃⟩ := k₂.add (Grow.push s₂ { cls := .type "list", data := .seq #[] } s₂.toks) (a := s₂.heap.objs.size) (c := .list []) ⟨_, _, Heap.get?_push_size _ rfl, rfl⟩ (fun b hb => by cases List.mem_singleton.mp hb; exact get?_end _) (by simp [foot])
  refine wpAny_newFunctionEnv hcell (by intro y hy; simp at hy) (fun h₁ hns hsb => ?_) hkind
  dsimp only at hns hsb ⊢
  generalize hL : (s₂.heap.push { cls := .type "list", data := .seq #[] }).objs.size = L at *
  have kp : ∀ b o, (s₂.heap.push { cls := .type "list", data := .seq #[] }).get? b = some o → h₁.get? b = some o := fun b o e =>
    hsb.extBut b o (by rw [← hL]; exact Nat.ne_of_lt (Heap.lt_size e)) (Heap.get?_push_of_some _ e)
  obtain ⟨k₄, g₄⟩ := k₃.add (s' := { s₂ with heap := h₁, toks := s₂.toks + 0 }) ⟨kp, rfl, rfl⟩ (a := L) (c := .loc (compEnvC scope cl L env) []) ⟨rfl, ⟨_, hns, fun x v e => by cases e⟩, fun c hc => by rw [own_comp] at hc; cases hc⟩
    (fun b hb => by
      simp only [foot, own_comp, List.mem_cons, List.not_mem_nil, or_false] at hb
      subst hb; rw [← hL]; exact get?_end _) (by simp [foot, own_comp])
  have p : (lc (compEnvC scope cl L env) [] :: (s₂.heap.objs.size, Cell.list []) :: lc env ℓ :: H₂).Perm (lc (compEnvC scope cl L env) [] :: lc env ℓ :: (s₂.heap.objs.size, Cell.list []) :: H₂) := (List.Perm.swap _ _ _).cons _
  have k₅ := k₄.perm p
  have g₅ := (((g₁.trans g₂).trans g₃).trans g₄).permR p
  obtain ⟨hself, hcm⟩ := hC s₂.heap.objs.size L
  have loop : codeAny (Mo T) A (.compLoop (.ListComp elt [⟨target, iter, [], 0⟩] scope pos) 0 (.ref a) (.ref s₂.heap.objs.size) (compEnvC scope cl L env)) (compPost (Mo T) A NoE use Q (.ref s₂.heap.objs.size) L) { s₂ with heap := h₁, toks := s₂.toks + 0 } := by
    refine codeAny_mono (hcm.run _ k₅) ?_
    rintro r s' ⟨f, rfl, ℓ', _, ⟨H'', rfl, hK⟩, k', g'⟩
    have := hQ _ _ _ _ _ hK k' (g₅.trans g')
    cases use <;> exact this
  exact codeAny_compStart_list loop (hself _ _ _ k₅ loop |> fun w => wpAny_mono w (fun _ _ q => q) fun _ _ e => e.elim)
theorem Ev_comp {T : TI} {A : Around} {env : Env} {ℓ : Lo} {H : Cs} {elt target iter : Expr} {scope : Scope} {pos : Pos} {K} (cl : List (Str × Addr)) 
    (h : lateK T A env ℓ H elt target iter scope cl pos (fun D H' => K (.ref D) H'))
    (hclos : closureFor scope env = pure cl := by rfl) (hcell : ∀ x ∈ scope.names, x.2 ≠ .cell := by decide) (hkind : scope.kind = .function := by rfl) (hnames : ∀ x ∈ scope.names, x.2 = .local → scope.names.lookup x.1 = some .local := by decide)
    (hs : ∀ x, foldedSetIterable iter env x = pure x := by intro _; rfl) : Ev T A env ℓ H (.ListComp elt [⟨target, iter, [], 0⟩] scope pos) K := by
  refine ⟨fun s k => ?_⟩
  rw [eval_ListComp]
  refine comp_any (use := none) k h ?_ hclos hcell hkind hnames hs
  intro D L ℓ' H' s' hK k' g'
  obtain ⟨e, ⟨m, hm, _⟩, _⟩ := loc_of k'
  refine ⟨m, hm, fun h' hsb => ?_⟩
  obtain ⟨k₂, g₂⟩ := Ok.comp (own_comp ..) k' hsb
  exact PostG.inI (v := .ref D) hK rfl k₂ (g'.trans g₂)
/-- a comprehension bound to a local name at once -/
theorem Ex_comp {T : TI} {A : Around} {env : Env} {ℓ : Lo} {H : Cs} {elt target iter : Expr} {scope : Scope} {pos pos' spos : Pos} {y : Str} {K} (cl : List (Str × Addr)) 
    (h : lateK T A env ℓ H elt target iter scope cl pos (fun D H' => ∃ ℓ', Upd y (.ref D) ℓ ℓ' ∧ K .next ℓ' H'))
    (hl : env.kindOf y = some .local := by kernel_rfl) (hk' : env.scope.kind = .function := by rfl)
    (hsw : swapsWith (.ListComp elt [⟨target, iter, [], 0⟩] scope pos) (some (.Name y pos')) spos.line env = pure true := by rfl)
    (hclos : closureFor scope env = pure cl := by rfl) (hcell : ∀ x ∈ scope.names, x.2 ≠ .cell := by decide) (hkind : scope.kind = .function := by rfl) (hnames : ∀ x ∈ scope.names, x.2 = .local → scope.names.lookup x.1 = some .local := by decide)
    (hs : ∀ x, foldedSetIterable iter env x = pure x := by intro _; rfl) : Ex T A env ℓ H (.Assign [.Name y pos'] (.ListComp elt [⟨target, iter, [], 0⟩] scope pos) spos) K := by
  refine ⟨fun s k => ?_⟩
  rw [exec_Assign_Name_used _ _ _ _ hsw]
  refine wpAny_bind (wpAny_standAt (wpAny_bind ?_))
  show wpAny _ A (do let _ ← comprehension (.ListComp elt [⟨target, iter, [], 0⟩] scope pos) scope env _ (newList []) false (eval iter env) (some (assign (.Name y pos') env))) _ _ s
  refine wpAny_bind (wpAny_mono (comp_any (use := some (assign (.Name y pos') env)) (Q := fun _ s' => PostG T (lc env ℓ :: H) s.heap RelF (fun f C' => ∃ ℓ' H', C' = lc env ℓ' :: H' ∧ K f ℓ' H') .next s') k h ?_ hclos hcell hkind hnames hs) (fun _ s' hq => wpAny_pure (wpAny_pure hq)) fun _ _ e => e)
  rintro D L ℓ' H' s' ⟨ℓ₂, u, hK⟩ k' g'
  have p : (lc (compEnvC scope cl L env) ℓ' :: lc env ℓ :: H').Perm (lc env ℓ :: lc (compEnvC scope cl L env) ℓ' :: H') := .swap _ _ _
  show wpAny _ A (assign (.Name y pos') env (.ref D)) _ _ _
  rw [arm_assign_Name]
  refine wpAny_bind (wpAny_standAt (wpAny_bindName (store_ok u (k'.perm p) (v := .ref D) rfl hk' (.inl hl) fun s₂ k₂ g₂ => ?_)))
  have p₂ : (lc env ℓ₂ :: lc (compEnvC scope cl L env) ℓ' :: H').Perm (lc (compEnvC scope cl L env) ℓ' :: lc env ℓ₂ :: H') := .swap _ _ _
  have k₃ := k₂.perm p₂
  obtain ⟨e, ⟨m, hm, _⟩, _⟩ := loc_of k₃
  refine ⟨m, hm, fun h' hsb => ?_⟩
  obtain ⟨k₄, g₄⟩ := Ok.comp (own_comp ..) k₃ hsb
  exact PostG.stI (v := .next) hK rfl k₄ ((((g'.permR p).trans g₂).permR p₂).trans g₄)
end Mine
end
section
open PySem PySem.Spec PySem.Calls PyProof.Rows PySem.P
namespace Mine
section
variable {T : TI} {A : Around} {env : Env} {ℓ : Lo} {H : Cs}
theorem Ev_free {x : Str} {pos : Pos} {i : Nat} {f c : Addr} {fd : FuncData} {v : V} {K} (hi : H[i]? = some (f, .clo fd c v)) (h : K v H)
    (hl : env.kindOf x = some .free := by kernel_rfl) (hc : env.cells.lookup x = some c := by rfl) (hk' : env.scope.kind = .function := by rfl) (hn : (x == ("__classdict__" : Str)) = false := by decide) (hd : (x == ("__debug__" : Str)) = false := by decide) : Ev T A env ℓ H (.Name x pos) K := by
  refine ⟨fun s k => ?_⟩
  have hi' : (lc env ℓ :: H)[i + 1]? = some (f, Cell.clo fd c v) := by simpa using hi
  obtain ⟨_, y, hy, r⟩ := cell_at k hi'
  exact wpAny_Name (wpAny_loadName_free hk' hl hc hy (PostG.inI (v := v) h r k (Go.refl _ _)) hn) hd
theorem Ev_outer {x : Str} {pos : Pos} {i : Nat} {L c : Addr} {env' : Env} {ℓ' : Lo} {v : V} {K} (hi : H[i]? = some (L, .loc env' ℓ')) (hv : ℓ'.lookup x = some v) (h : K v H)
    (hl' : env'.kindOf x = some .cell := by kernel_rfl) (hc' : env'.cells.lookup x = some c := by rfl)
    (hl : env.kindOf x = some .cell := by kernel_rfl) (hc : env.cells.lookup x = some c := by rfl) (hk' : env.scope.kind = .function := by rfl) (hd : (x == ("__debug__" : Str)) = false := by decide) : Ev T A env ℓ H (.Name x pos) K := by
  refine ⟨fun s k => ?_⟩
  have hi' : (lc env ℓ :: H)[i + 1]? = some (L, Cell.loc env' ℓ') := by simpa using hi
  obtain ⟨_, ⟨m, _, hm⟩, _⟩ := cell_at k hi'
  rcases hm x v hv with ⟨e, _⟩ | ⟨_, c₂, y, hc₂, _, hy, r⟩
  · rw [hl'] at e; cases e
  · rw [hc'] at hc₂; cases hc₂
    exact wpAny_Name (wpAny_loadName_cell hk' hl hc hy (PostG.inI (v := v) h r k (Go.refl _ _))) hd
theorem Ev_cell {x : Str} {pos : Pos} {v : V} {K} (hv : ℓ.lookup x = some v) (h : K v H)
    (hl : env.kindOf x = some .cell := by kernel_rfl) (hk' : env.scope.kind = .function := by rfl) (hd : (x == ("__debug__" : Str)) = false := by decide) : Ev T A env ℓ H (.Name x pos) K := by
  refine ⟨fun s k => ?_⟩
  obtain ⟨_, ⟨m, _, hm⟩, _⟩ := loc_of k
  rcases hm x v hv with ⟨e, _⟩ | ⟨_, c₂, y, hc₂, _, hy, r⟩
  · rw [hl] at e; cases e
  · exact wpAny_Name (wpAny_loadName_cell hk' hl hc₂ hy (PostG.inI (v := v) h r k (Go.refl _ _))) hd
theorem Ex_assignC {x : Str} {pos' pos : Pos} {c : Addr} {e : Expr} {K} (h : Ev T A env ℓ H e fun v H₁ => ∃ ℓ', Upd x v ℓ ℓ' ∧ K .next ℓ' H₁)
    (hc : env.cells = [(x, c)] := by rfl) (ho : ownCells env = [c] := by rfl)
    (hl : env.kindOf x = some .cell := by kernel_rfl) (hk' : env.scope.kind = .function := by rfl) (hs : swapsWith e (some (.Name x pos')) pos.line env = pure false := by rfl) : Ex T A env ℓ H (.Assign [.Name x pos'] e pos) K := by
  refine ⟨fun s k => ?_⟩
  refine wpAny_Assign_Name (wpAny_mono (h.run s k) ?_ fun _ _ e => e) hs
  refine fun y s₁ p₀ => p₀.inE fun v H₁ hh₀ r₁ k₁ g₁ => ?_
  obtain ⟨ℓ', u, hK⟩ := hh₀
  refine store_ok u k₁ r₁ hk' (.inr ⟨hl, c, by rw [hc]; simp, by rw [ho]; exact .head _, fun x' c' e _ => ?_⟩) fun s' k' g' => PostG.stI (v := .next) hK rfl k' (g₁.trans g')
  rw [hc, List.lookup_cons] at e
  cases hb : x' == x with
  | true => exact beq_iff_eq.mp hb
  | false => rw [hb] at e; cases e
end
/-- how a frame is left -/
noncomputable def Turn (T : TI) (env : Env) (ℓ : Lo) (H H'' : Cs) : Prop := ∀ s, Ok T (lc env ℓ :: H) s → Ok T H'' s ∧ Go (lc env ℓ :: H) s.heap H'' s.heap
theorem Turn.drop {T : TI} {env : Env} {ℓ : Lo} {H H'' : Cs} (h : H''.Sublist H) : Turn T env ℓ H H'' := fun s k => k.drop (h.trans (List.sublist_cons_self _ _))
theorem Turn.clo {T : TI} {env : Env} {ℓ : Lo} {H H'' : Cs} {i : Nat} {f c : Addr} {fd : FuncData} {x : Str} {v : V} (hi : H[i]? = some (f, .fn fd)) (hv : ℓ.lookup x = some v) (hs : H''.Sublist ((f, .clo fd c v) :: H.eraseIdx i))
    (hl : env.kindOf x = some .cell := by kernel_rfl) (ho : ownCells env = [c] := by rfl) : Turn T env ℓ H H'' := fun s k => by
  have p : (lc env ℓ :: H).Perm (lc env ℓ :: (f, .fn fd) :: H.eraseIdx i) := by
    obtain ⟨p, _⟩ := set_perm (y := (f, Cell.fn fd)) hi
    exact p.cons _
  have k₁ := k.perm p
  obtain ⟨_, ⟨m, _, hm⟩, _⟩ := loc_of k
  rcases hm x v hv with ⟨e, _⟩ | ⟨_, c₂, y, hc₂, hin, hy, r⟩
  · rw [hl] at e; cases e
  rw [ho] at hin
  cases List.mem_singleton.mp hin
  have hfn : CellAt T s.heap f (.fn fd) := k₁.cells (f, .fn fd) (.tail _ (.head _))
  have fe : foots (lc env ℓ :: (f, Cell.fn fd) :: H.eraseIdx i) = env.locals :: c :: f :: foots (H.eraseIdx i) := by
    rw [foots_cons, foots_cons]
    show (env.locals :: ownCells env) ++ ([f] ++ _) = _
    rw [ho]; rfl
  have fe' : foots ((f, Cell.clo fd c v) :: H.eraseIdx i) = f :: c :: foots (H.eraseIdx i) := by rw [foots_cons]; rfl
  have g : Go (lc env ℓ :: (f, Cell.fn fd) :: H.eraseIdx i) s.heap ((f, Cell.clo fd c v) :: H.eraseIdx i) s.heap := ⟨fun b o e _ => e, fun b hb => .inl (by
    rw [fe'] at hb; rw [fe]
    simp only [List.mem_cons] at hb ⊢
    rcases hb with h | h | h <;> simp [h])⟩
  have nd := k₁.nd
  rw [fe] at nd
  have k₂ : Ok T ((f, Cell.clo fd c v) :: H.eraseIdx i) s := k₁.mk' g (fun q hq => by
    rcases List.mem_cons.mp hq with rfl | hq
    · exact ⟨hfn, y, hy, r⟩
    · exact k₁.cells q (.tail _ (.tail _ hq))) (by
    rw [fe']
    have n1 := (List.nodup_cons.mp nd).2
    exact (List.Perm.swap _ _ _).nodup_iff.mp n1) rfl rfl
  obtain ⟨k₃, g₃⟩ := k₂.drop hs
  exact ⟨k₃, (g.permL p.symm).trans g₃⟩
theorem Turn.perm {T : TI} {env : Env} {ℓ : Lo} {H H₁ H₂ : Cs} (t : Turn T env ℓ H H₁) (p : H₁.Perm H₂) : Turn T env ℓ H H₂ := fun s k => let ⟨a, b⟩ := t s k; ⟨a.perm p, b.permR p⟩
section
variable {T : TI} {A : Around} {C : Cs}
/-- a def of one parameter whose frame has one cell -/
theorem CallC_cell1 {n : Nat} {a : Addr} {fd : FuncData} {body : List Stmt} {p y : Str} {v : V} {K} (d : DefAt T a fd body) (rm : Rm A (n + 1))
    (hbind : ∀ x, bindArgs fd ⟨[x], []⟩ = pure [(p, x)]) (hclo : fd.closure = []) (hp : fd.scope.names.lookup p = some .local) (hcf : ∀ k, cellsFrom k fd.scope.names [] = [(y, k)]) (hany : fd.scope.names.any (fun p => p.2 == .cell) = true)
    (h : ∀ L, Exs T (A.deeper (callEnvC fd L a)) (callEnvC fd L a) [(p, v)] C body (fun fl ℓ' H' => ∃ H'', Turn T (callEnvC fd L a) ℓ' H' H'' ∧ K (retV fl) H''))
    (hco : fd.scope.isCoroutine = false := by rfl) (hgen : fd.scope.isGenerator = false := by rfl) (hk : fd.scope.kind = .function := by rfl) : CallC T A C (.ref a) [v] K := by
  refine ⟨fun s xs k r => ?_⟩
  obtain ⟨x, ys, rfl, rx, r'⟩ := r.cons_inv
  cases r'.nil_inv
  obtain ⟨o, ho, hd⟩ := d.at'
  have hcl : ∀ L, (callEnvC fd L a).cells = [(y, L + 1)] := fun L => hcf (L + 1)
  have own : ∀ L, ownCells (callEnvC fd L a) = [L + 1] := fun L => by
    unfold ownCells
    rw [if_pos]
    · rw [hcl]; rfl
    · show (true && fd.scope.names.any _) = true
      rw [hany]; rfl
  have hlim : s.heap.NoLimit := let ⟨ht, m, hm, e⟩ := d.lim; ⟨m, Ns.top k hm ht, e⟩
  have hcd : s.heap.CodeRec fd.code fd.qualname := let ⟨c, o, vs, t, e, hc, ho, r⟩ := d.code; ⟨c, o, vs, t, e, k.top _ _ ho hc, r⟩
  refine codeAny_call_cells rm.lt (k.top _ _ ho d.ne) hd hlim hcd d.body (hbind x) hclo (fun z hz => by cases List.mem_singleton.mp hz; exact .inl hp) (fun s₁ ic => ?_) hco hgen hk
  obtain ⟨h₁, tk, rfl⟩ := ic.toInCall.same
  have gr : Grow s { s with heap := h₁, toks := tk } := ⟨ic.toInCall.keep, rfl, rfl⟩
  have hkl : (callEnvC fd s.heap.objs.size a).kindOf p = some .local := hp
  have hcellat := ic.cell y (s.heap.objs.size + 1) (by rw [hcl]; simp)
  obtain ⟨k₀, g₀⟩ := k.add gr (a := s.heap.objs.size) (c := .loc (callEnvC fd s.heap.objs.size a) [(p, v)])
    ⟨rfl, ⟨_, ic.toInCall.ns, fun z w hz => by
      rw [List.lookup_cons] at hz
      cases hb : z == p with
      | false => rw [hb] at hz; cases hz
      | true =>
        rw [hb] at hz; cases hz
        cases beq_iff_eq.mp hb
        exact .inl ⟨hkl, x, by unfold bindL bindL; rw [if_pos hkl]; simp, rx.keep gr.tup⟩⟩, fun c hc => by
      rw [own] at hc; cases List.mem_singleton.mp hc
      exact ⟨_, hcellat⟩⟩
    (fun b hb => by
      simp only [foot, own, List.mem_cons, List.not_mem_nil, or_false] at hb
      rcases hb with rfl | rfl
      · exact get?_end _
      · exact Heap.get?_none_of_le (Nat.le_succ _)) (by simp [foot, own])
  refine wpAny_mono ((h s.heap.objs.size).run _ k₀) ?_ fun _ _ e => e.elim
  refine fun f s' p₀ => p₀.stE fun fl ℓ' H' hh₀ rf k' g' => ?_
  obtain ⟨H'', ht, hK⟩ := hh₀
  obtain ⟨k₂, g₂⟩ := ht s' k'
  refine ⟨_, rfl, retV fl, H'', hK, ?_, k₂, (g₀.trans g').trans g₂⟩
  cases fl with
  | next => cases rf; rfl
  | brk => cases rf; rfl
  | cont => cases rf; rfl
  | ret v => obtain ⟨x, rfl, rx⟩ := rf; exact rx
/-- a closure of one parameter, called -/
theorem CallC_clo {n : Nat} {i j : Nat} {f c c' tb : Addr} {pos : Pos} {q : Str} {fd : FuncData} {body : List Stmt} {p : Str} {v u : V} {K} (hi : C[i]? = some (f, .clo fd c u)) (hj : C[j]? = some (tb, .tab1 c' pos q)) (rm : Rm A (n + 1))
    (hlim : cStatics ≠ T.tb ∧ ∃ m, T.h₁.Ns cStatics m ∧ m "sys.recursionlimit" = none) (hcode : fd.code = .ref c') (hq : fd.qualname = q) (hbody : fd.body = .stmts body)
    (hbind : ∀ x, bindArgs fd ⟨[x], []⟩ = pure [(p, x)]) (hp : fd.scope.names.lookup p = some .local) (hcell : ∀ x ∈ fd.scope.names, x.2 ≠ .cell)
    (h : ∀ L, Exs T (A.deeper (callEnv fd L f)) (callEnv fd L f) [(p, v)] C body (fun fl _ H' => ∃ H'', H''.Sublist H' ∧ K (retV fl) H''))
    (hco : fd.scope.isCoroutine = false := by rfl) (hgen : fd.scope.isGenerator = false := by rfl) (hk : fd.scope.kind = .function := by rfl) : CallC T A C (.ref f) [v] K := by
  refine ⟨fun s xs k r => ?_⟩
  obtain ⟨x, ys, rfl, rx, r'⟩ := r.cons_inv
  cases r'.nil_inv
  obtain ⟨⟨o, ho, _, hd⟩, _⟩ := cell_at k hi
  obtain ⟨_, _, oc, vs, t, hoc, hod, hov⟩ := cell_at k hj
  have own : ∀ L, ownCells (callEnv fd L f) = [] := fun L => by
    unfold ownCells
    rw [if_neg]
    simp only [Bool.and_eq_true, List.any_eq_true, not_exists, not_and]
    intro _ x hx e
    exact hcell x hx (by simpa using e)
  have hlim : s.heap.NoLimit := let ⟨ht, m, hm, e⟩ := hlim; ⟨m, Ns.top k hm ht, e⟩
  have hcd : s.heap.CodeRec fd.code fd.qualname := ⟨c', oc, vs, t, hcode, hoc, hod, by rw [hq]; exact hov⟩
  refine (codeAny_call_def rm.lt ho hd hlim hcd hbody (BindsTo.of_eq (hbind x)) hcell (fun z hz => by cases List.mem_singleton.mp hz; exact hp) (fun h₀ hns hkp => ?_) hco hgen hk)
  have gr : Grow s { s with heap := h₀, toks := s.toks + [(p, x)].length } := ⟨hkp, rfl, rfl⟩
  obtain ⟨k₀, g₀⟩ := k.add gr (a := s.heap.objs.size) (c := .loc (callEnv fd s.heap.objs.size f) [(p, v)])
    ⟨rfl, ⟨_, hns, fun z w hz => by
      rw [List.lookup_cons] at hz
      cases hb : z == p with
      | false => rw [hb] at hz; cases hz
      | true =>
        rw [hb] at hz; cases hz
        cases beq_iff_eq.mp hb
        exact .inl ⟨hp, x, by simp, rx.keep gr.tup⟩⟩, fun c hc => by rw [own] at hc; cases hc⟩
    (fun b hb => by
      simp only [foot, own, List.mem_cons, List.not_mem_nil, or_false] at hb
      subst hb; exact get?_end _) (by simp [foot, own])
  refine wpAny_mono ((h s.heap.objs.size).run _ k₀) ?_ fun _ _ e => e.elim
  refine fun f s' p₀ => p₀.stE fun fl ℓ' H' hh₀ rf k' g' => ?_
  obtain ⟨H'', hs, hK⟩ := hh₀
  obtain ⟨k₂, g₂⟩ := k'.drop (C' := H'') (hs.trans (List.sublist_cons_self _ _))
  refine ⟨_, rfl, retV fl, H'', hK, ?_, k₂, (g₀.trans g').trans g₂⟩
  cases fl with
  | next => cases rf; rfl
  | brk => cases rf; rfl
  | cont => cases rf; rfl
  | ret v => obtain ⟨x, rfl, rx⟩ := rf; exact rx
theorem clo_callee {i : Nat} {f c : Addr} {fd : FuncData} {u : V} (hi : C[i]? = some (f, .clo fd c u)) : Callee T C (.ref f) := .inr (.inr ⟨f, rfl, fun s k => by
  obtain ⟨⟨o, ho, _, hd⟩, _⟩ := cell_at k hi
  exact ⟨_, .inl rfl, keeper_fn ho hd⟩⟩)
/-- what a nested def needs of the top -/
structure NestAt (T : TI) (mg : Str → Option Value) : Prop where
  ns : T.h₁.Ns mainGlobals mg
  ne : mainGlobals ≠ T.tb
  code : PySem.W.CodeHd T.h₁ T.tc T.tb
  built : T.h₁.BuiltinsAt mg T.tb
theorem Ex_def {env : Env} {ℓ : Lo} {H : Cs} {name : Str} {params : Arguments} {body : List Stmt} {scope : Scope} {pos : Pos} {mg : Str → Option Value} {j : Nat} {clos : List (Str × Addr)} {K} (N : NestAt T mg)
    (hj : H[j]? = some (T.tb, .tab) ∨ ∃ c', H[j]? = some (T.tb, .tab1 c' pos (qualnameIn env name name)))
    (hg : env.globals = mainGlobals) (hcode : env.code = .ref T.tc) (hcl : closureFor scope env = pure clos)
    (h : ∀ f c' doc ctv, (∀ c0, H[j]? = some (T.tb, .tab1 c0 pos (qualnameIn env name name)) → c' = c0) → ∃ ℓ', Upd name (.ref f) ℓ ℓ' ∧ K .next ℓ' ((f, .fn (PySem.W.fnX name (qualnameIn env name name) params body scope clos .none .none doc ((mg "__name__").getD .none) none (.ref c') ctv)) :: H.set j (T.tb, .tab1 c' pos (qualnameIn env name name))))
    (hl : env.kindOf name = some .local := by kernel_rfl) (hk' : env.scope.kind = .function := by rfl) (hd0 : params.defaults = [] := by rfl) (hk0 : params.kw_defaults = [] := by rfl) (ha : annTrees params none env = [] := by rfl) :
    Ex T A env ℓ H (.FunctionDef name params body [] none [] scope none name pos) K := by
  refine ⟨fun s k => ?_⟩
  refine PySem.W.nestDef_K hd0 hk0 ha ?_
  have hns := Ns.top k N.ns N.ne
  obtain ⟨bm, ob, b1, b2, b3, b4, b5, b6⟩ := N.built
  have hb : s.heap.BuiltinsAt mg T.tb := ⟨bm, ob, b1, b2, b3, b4, k.top _ _ b5 b4, b6⟩
  have hC : PySem.W.CodeHd s.heap T.tc T.tb := by
    obtain ⟨o, vs, file, tf, flags, tg, inF, text, tt, e, r⟩ := N.code
    exact ⟨o, vs, file, tf, flags, tg, inF, text, tt, k.top _ _ e r.2.2.2.2.2.2.2.2, r⟩
  rcases hj with hj | ⟨c', hj⟩
  · have hj' : (lc env ℓ :: H)[j + 1]? = some (T.tb, Cell.tab) := by simpa using hj
    obtain ⟨ht, hP⟩ := cell_at k hj'
    refine PySem.W.makeFunction_K (P := T.tb) (ps := #[]) hcl hg hns hcode hC hP trivial rfl N.ne hb fun c' ctv doc h' tk hx hge hlt hrec htb => ?_
    obtain ⟨c₂, oc, vs, t, e2, hoc, hd, hv⟩ := hrec
    cases e2
    have hc0 : s.heap.get? c' = none := Heap.get?_none_of_le hge
    have htl : T.tb < s.heap.objs.size := Heap.lt_size hP
    have htc : T.tb ≠ c' := Nat.ne_of_lt (Nat.lt_of_lt_of_le htl hge)
    have hfc : h'.objs.size ≠ c' := (Nat.ne_of_lt hlt).symm
    have hft : h'.objs.size ≠ T.tb := (Nat.ne_of_lt (Nat.lt_trans (Nat.lt_of_lt_of_le htl hge) hlt)).symm
    have hf0 : s.heap.get? h'.objs.size = none := Heap.get?_none_of_le (Nat.le_of_lt (Nat.lt_of_le_of_lt hge hlt))
    obtain ⟨p, p'⟩ := set_perm (y := (T.tb, Cell.tab1 c' pos (qualnameIn env name name))) hj'
    have k₁ : Ok T ([(T.tb, Cell.tab)] ++ (lc env ℓ :: H).eraseIdx (j + 1)) s := k.perm p
    let fo : Obj := PySem.W.fnMade name (qualnameIn env name name) params body scope clos doc ((mg "__name__").getD .none) c' ctv
    let s₂ : Shared := { s with heap := h'.push fo, toks := tk }
    have g : Go [(T.tb, Cell.tab)] s.heap [(h'.objs.size, Cell.fn (PySem.W.fnX name (qualnameIn env name name) params body scope clos .none .none doc ((mg "__name__").getD .none) none (.ref c') ctv)), (T.tb, Cell.tab1 c' pos (qualnameIn env name name))] s₂.heap :=
      ⟨fun b o e hb => Heap.get?_push_of_some _ (hx b o (fun z => hb (by rw [z]; exact .head _)) e), fun b hb => by
        have : b = h'.objs.size ∨ b = T.tb ∨ b = c' := by simpa [foots, foot] using hb
        rcases this with rfl | rfl | rfl
        · exact .inr hf0
        · exact .inl (.head _)
        · exact .inr hc0⟩
    have k₂ : Ok T [(h'.objs.size, Cell.fn (PySem.W.fnX name (qualnameIn env name name) params body scope clos .none .none doc ((mg "__name__").getD .none) none (.ref c') ctv)), (T.tb, Cell.tab1 c' pos (qualnameIn env name name))] s₂ := k₁.left.mk' g (fun q hq => by
      simp only [List.mem_cons, List.not_mem_nil, or_false] at hq
      rcases hq with rfl | rfl
      · exact ⟨_, Heap.get?_push_size _ rfl, rfl, rfl⟩
      · exact ⟨ht, Heap.get?_push_of_some _ (show h'.get? T.tb = some (PySem.W.tabObj #[rawInt pos.line, rawInt pos.col, .ref c']) by simpa using htb), oc, vs, t, Heap.get?_push_of_some _ hoc, hd, hv⟩) (by
      show ([h'.objs.size] ++ ([T.tb, c'] ++ [])).Nodup
      simp [hfc, hft, htc]) rfl rfl
    obtain ⟨k₃, g₃⟩ := k₁.frame k₂ g
    obtain ⟨ℓ', u, hK⟩ := h h'.objs.size c' doc ctv (fun c0 e => by rw [hj] at e; cases e)
    have q : ([(h'.objs.size, Cell.fn (PySem.W.fnX name (qualnameIn env name name) params body scope clos .none .none doc ((mg "__name__").getD .none) none (.ref c') ctv)), (T.tb, Cell.tab1 c' pos (qualnameIn env name name))] ++ (lc env ℓ :: H).eraseIdx (j + 1)).Perm
        (lc env ℓ :: (h'.objs.size, Cell.fn (PySem.W.fnX name (qualnameIn env name name) params body scope clos .none .none doc ((mg "__name__").getD .none) none (.ref c') ctv)) :: H.set j (T.tb, Cell.tab1 c' pos (qualnameIn env name name))) := by
      refine List.Perm.trans (List.Perm.cons _ p') ?_
      exact .swap _ _ _
    refine store_ok u (k₃.perm q) (v := .ref h'.objs.size) rfl hk' (.inl hl) fun s' k' g' => PostG.stI (v := .next) hK rfl k' (((g₃.permL p.symm).permR q).trans g')
  · have hj' : (lc env ℓ :: H)[j + 1]? = some (T.tb, Cell.tab1 c' pos (qualnameIn env name name)) := by simpa using hj
    obtain ⟨ht, hP, hrec⟩ := cell_at k hj'
    refine PySem.W.makeFunction_hit (cv := .ref c') (P := T.tb) (ps := #[rawInt pos.line, rawInt pos.col, .ref c']) hcl hg hns hcode hC hP trivial (by simp [codeAmong, rawInt]) hb fun ctv doc h' tk hk hsz => ?_
    obtain ⟨ℓ', u, hK⟩ := h h'.objs.size c' doc ctv (fun c0 e => by rw [hj] at e; cases e; rfl)
    have gr : Grow s { s with heap := h'.push { cls := .type "function", data := .func (PySem.W.fnX name (qualnameIn env name name) params body scope clos .none .none doc ((mg "__name__").getD .none) none (.ref c') ctv) }, toks := tk } := ⟨fun b o e => Heap.get?_push_of_some _ (hk b o e), rfl, rfl⟩
    obtain ⟨k₂, g₂⟩ := k.add gr (a := h'.objs.size) (c := .fn (PySem.W.fnX name (qualnameIn env name name) params body scope clos .none .none doc ((mg "__name__").getD .none) none (.ref c') ctv)) ⟨_, Heap.get?_push_size _ rfl, rfl, rfl⟩ (fun b hb => by cases List.mem_singleton.mp hb; exact Heap.get?_none_of_le hsz) (by simp [foot])
    have hset : H.set j (T.tb, Cell.tab1 c' pos (qualnameIn env name name)) = H := by
      apply List.ext_getElem?
      intro i
      rw [List.getElem?_set]
      split
      · rename_i e; subst e
        split
        · exact hj.symm
        · rename_i hh; rw [List.getElem?_eq_none (by omega)]
      · rfl
    rw [hset] at hK
    have q : ∀ z : Addr × Cell, (z :: lc env ℓ :: H).Perm (lc env ℓ :: z :: H) := fun z => .swap _ _ _
    refine store_ok u (k₂.perm (q _)) (v := .ref h'.objs.size) rfl hk' (.inl hl) fun s' k' g' => PostG.stI (v := .next) hK rfl k' ((g₂.permR (q _)).trans g')
end
end Mine
end
section
open PySem PySem.W PyProof.Rows
namespace Mine
noncomputable def goT (lt : Nat → Nat → Bool) {α : Type} : KasT α → α
  | .ret a => a
  | .ask i j k => goT lt (k (lt i j))
theorem goT_bind (lt : Nat → Nat → Bool) {α β : Type} (f : α → KasT β) : ∀ t : KasT α, goT lt (t.bind f) = goT lt (f (goT lt t))
  | .ret a => rfl
  | .ask i j k => goT_bind lt f (k (lt i j))
structure LtN (n : Nat) (lt : Nat → Nat → Bool) : Prop where
  trans : ∀ i j k, i < n → j < n → k < n → lt i j = true → lt j k = true → lt i k = true
  tot : ∀ i j, i < n → j < n → i ≠ j → lt i j = true ∨ lt j i = true
  asym : ∀ i j, i < n → j < n → lt i j = true → lt j i = false
structure Gd (n : Nat) (p : Array Nat) : Prop where
  size : p.size = n
  lt : ∀ i, i < n → p.getD i 0 < n
  inj : ∀ i j, i < n → j < n → p.getD i 0 = p.getD j 0 → i = j
  perm : p.toList.Perm (List.range n)
theorem Gd.of {n : Nat} {p : Array Nat} (h : p.toList.Perm (List.range n)) : Gd n p := by
  have hsz : p.size = n := by simpa using h.length_eq
  have hnd : p.toList.Nodup := h.nodup_iff.mpr List.nodup_range
  have ge : ∀ i, (hi : i < n) → p.getD i 0 = p.toList[i]'(by simpa [hsz] using hi) := fun i hi => by simp [Array.getD, hsz, hi]
  refine ⟨hsz, fun i hi => ?_, fun i j hi hj e => ?_, h⟩
  · rw [ge i hi]
    have := h.mem_iff.mp (List.getElem_mem (l := p.toList) (by simpa [hsz] using hi))
    simpa using this
  · rw [ge i hi, ge j hj] at e
    have pw := List.pairwise_iff_getElem.mp hnd
    rcases Nat.lt_trichotomy i j with h | h | h
    · exact absurd e (pw i j _ _ h)
    · exact h
    · exact absurd e.symm (pw j i _ _ h)
theorem Gd.perm' {n : Nat} {p q : Array Nat} (g : Gd n p) (h : q.Perm p) : Gd n q := Gd.of ((Array.perm_iff_toList_perm.mp h).trans g.perm)
noncomputable def Srt (lt : Nat → Nat → Bool) (p : Array Nat) (k : Nat) : Prop := ∀ i j, i < j → j < k → lt (p.getD i 0) (p.getD j 0) = true
noncomputable def Dec (lt : Nat → Nat → Bool) (p : Array Nat) (k : Nat) : Prop := ∀ i j, i < j → j < k → lt (p.getD j 0) (p.getD i 0) = true
theorem getD_get {p : Array Nat} {i : Nat} : p.getD i 0 = (p[i]?).getD 0 := by simp [Array.getD_eq_getD_getElem?]
section
variable {n : Nat} {lt : Nat → Nat → Bool}
theorem asc_ok (L : LtN n lt) {p : Array Nat} (g : Gd n p) : ∀ (f k nr : Nat), f + k = nr → nr ≤ n → 1 ≤ k → Srt lt p k → k ≤ goT lt (kas_asc p f k) ∧ goT lt (kas_asc p f k) ≤ nr ∧ Srt lt p (goT lt (kas_asc p f k)) ∧
    (goT lt (kas_asc p f k) = nr ∨ lt (p.getD (goT lt (kas_asc p f k)) 0) (p.getD (goT lt (kas_asc p f k) - 1) 0) = true)
  | 0, k, nr, e, hn, h1, hs => ⟨Nat.le_refl _, by show k ≤ nr; omega, hs, .inl (by show k = nr; omega)⟩
  | f + 1, k, nr, e, hn, h1, hs => by
    unfold kas_asc
    show k ≤ goT lt (if lt (p.getD k 0) (p.getD (k - 1) 0) = true then _ else _) ∧ _
    by_cases hc : lt (p.getD k 0) (p.getD (k - 1) 0) = true
    · simp only [goT, hc, if_true]
      exact ⟨Nat.le_refl _, by omega, hs, .inr (by first | exact hc | trivial)⟩
    · have hc' : lt (p.getD k 0) (p.getD (k - 1) 0) = false := by simpa using hc
      simp only [goT, hc', Bool.false_eq_true, if_false]
      have hlt : lt (p.getD (k - 1) 0) (p.getD k 0) = true := by
        rcases L.tot _ _ (g.lt (k - 1) (by omega)) (g.lt k (by omega)) (fun e => by have := g.inj _ _ (by omega) (by omega) e; omega) with h | h
        · exact h
        · exact absurd h hc
      have ih := asc_ok L g f (k + 1) nr (by omega) hn (by omega) (fun i j hij hj => by
        by_cases hj' : j < k
        · exact hs i j hij hj'
        · have : j = k := by omega
          subst this
          by_cases hi : i = j - 1
          · subst hi; exact hlt
          · exact L.trans _ _ _ (g.lt i (by omega)) (g.lt (j - 1) (by omega)) (g.lt j (by omega)) (hs i (j - 1) (by omega) (by omega)) hlt)
      exact ⟨by omega, ih.2.1, ih.2.2.1, ih.2.2.2⟩
theorem desc_ok (L : LtN n lt) {p : Array Nat} (g : Gd n p) : ∀ (f k nr : Nat), f + k = nr → nr ≤ n → 1 ≤ k → Dec lt p k → ∃ m, goT lt (kas_desc f p k 0) = (p, m, 0) ∧ k ≤ m ∧ m ≤ nr ∧ Dec lt p m
  | 0, k, nr, e, hn, h1, hs => ⟨k, rfl, Nat.le_refl _, by omega, hs⟩
  | f + 1, k, nr, e, hn, h1, hs => by
    unfold kas_desc
    by_cases hc : lt (p.getD k 0) (p.getD (k - 1) 0) = true
    · simp only [goT, hc, if_true, show ¬ (0 > 0) by omega, if_false]
      obtain ⟨m, e1, e2, e3, e4⟩ := desc_ok L g f (k + 1) nr (by omega) hn (by omega) (fun i j hij hj => by
        by_cases hj' : j < k
        · exact hs i j hij hj'
        · have : j = k := by omega
          subst this
          by_cases hi : i = j - 1
          · subst hi; exact hc
          · exact L.trans _ _ _ (g.lt j (by omega)) (g.lt (j - 1) (by omega)) (g.lt i (by omega)) hc (hs i (j - 1) (by omega) (by omega)))
      exact ⟨m, e1, by omega, e3, e4⟩
    · have hc' : lt (p.getD k 0) (p.getD (k - 1) 0) = false := by simpa using hc
      have hlt : lt (p.getD (k - 1) 0) (p.getD k 0) = true := by
        rcases L.tot _ _ (g.lt (k - 1) (by omega)) (g.lt k (by omega)) (fun e => by have := g.inj _ _ (by omega) (by omega) e; omega) with h | h
        · exact h
        · exact absurd h hc
      simp only [goT, hc', Bool.false_eq_true, if_false, hlt, if_true]
      exact ⟨k, rfl, Nat.le_refl _, by omega, hs⟩
theorem rev_get {p : Array Nat} {m : Nat} (hm : m ≤ p.size) (k : Nat) : (kas_rev p 0 m).getD k 0 = if k < m then p.getD (m - 1 - k) 0 else p.getD k 0 := by
  unfold kas_rev
  rw [getD_get, getElem?_mirror_all hm k]
  by_cases h : k < m
  · simp only [h, if_true, Nat.zero_le, true_and]
    rw [getD_get]
    congr 2; omega
  · simp only [h, if_false, and_false]
    rw [getD_get]
theorem count_ok (L : LtN n lt) {p : Array Nat} (g : Gd n p) (hn : 1 ≤ n) : ∃ m q, goT lt (kas_count n p) = (m, q) ∧ 1 ≤ m ∧ m ≤ n ∧ Gd n q ∧ Srt lt q m := by
  unfold kas_count
  rw [goT_bind]
  obtain ⟨h1, h2, h3, h4⟩ := asc_ok L g (n - 1) 1 n (by omega) (Nat.le_refl _) (Nat.le_refl _) (fun i j hij hj => by omega)
  generalize goT lt (kas_asc p (n - 1) 1) = m at h1 h2 h3 h4 ⊢
  by_cases hm : m = n
  · rw [if_pos (by simpa using hm)]
    exact ⟨m, p, rfl, h1, h2, g, h3⟩
  · rw [if_neg (by simpa using hm)]
    have h4' : lt (p.getD m 0) (p.getD (m - 1) 0) = true := h4.resolve_left hm
    by_cases hm1 : m > 1
    · rw [if_pos hm1]
      have : lt (p.getD 0 0) (p.getD (m - 1) 0) = true := h3 0 (m - 1) (by omega) (by omega)
      simp only [goT, this, if_true]
      exact ⟨m, p, rfl, h1, h2, g, h3⟩
    · rw [if_neg hm1]
      have hm' : m = 1 := by omega
      subst hm'
      unfold kas_descPart
      rw [goT_bind]
      obtain ⟨m', e1, e2, e3, e4⟩ := desc_ok L g (n - (1 + 1)) (1 + 1) n (by omega) (Nat.le_refl _) (by omega) (fun i j hij hj => by
        have hi : i = 0 := by omega
        have hj' : j = 1 := by omega
        subst hi hj'
        exact h4')
      rw [e1]
      simp only [show ¬ (0 > 0) by omega, if_false]
      unfold kas_tail3
      rw [goT_bind]
      have g' : Gd n (kas_rev p 0 m') := g.perm' (mirror_perm _ _ _ _)
      obtain ⟨a1, a2, a3, a4⟩ := asc_ok L g' (n - m') m' n (by omega) (Nat.le_refl _) (by omega) (fun i j hij hj => by
        rw [rev_get (by rw [g.size]; omega), rev_get (by rw [g.size]; omega), if_pos (by omega), if_pos hj]
        exact e4 (m' - 1 - j) (m' - 1 - i) (by omega) (by omega))
      exact ⟨_, _, rfl, by omega, a2, g', a3⟩
theorem place_ok (L : LtN n lt) {p : Array Nat} (g : Gd n p) {k : Nat} (hk : k < n) (hs : Srt lt p k) : ∀ (f l r : Nat), r - l ≤ f → l ≤ r → r ≤ k → (∀ i, i < l → lt (p.getD i 0) (p.getD k 0) = true) → (∀ i, r ≤ i → i < k → lt (p.getD k 0) (p.getD i 0) = true) →
    goT lt (kas_place p k f l r) ≤ k ∧ (∀ i, i < goT lt (kas_place p k f l r) → lt (p.getD i 0) (p.getD k 0) = true) ∧ (∀ i, goT lt (kas_place p k f l r) ≤ i → i < k → lt (p.getD k 0) (p.getD i 0) = true)
  | 0, l, r, hf, hlr, hr, h1, h2 => by
    have : l = r := by omega
    subst this
    exact ⟨hr, h1, h2⟩
  | f + 1, l, r, hf, hlr, hr, h1, h2 => by
    unfold kas_place
    by_cases hge : l ≥ r
    · rw [if_pos hge]
      have : l = r := by omega
      subst this
      exact ⟨hr, h1, h2⟩
    · rw [if_neg hge]
      have hm1 : l ≤ (l + r) / 2 := by omega
      have hm2 : (l + r) / 2 < r := by omega
      generalize (l + r) / 2 = m at hm1 hm2 ⊢
      by_cases hc : lt (p.getD k 0) (p.getD m 0) = true
      · simp only [goT, hc, if_true]
        refine place_ok L g hk hs f l m (by omega) (by omega) (by omega) h1 fun i hi hik => ?_
        by_cases e : i = m
        · subst e; exact hc
        · exact L.trans _ _ _ (g.lt k hk) (g.lt m (by omega)) (g.lt i (by omega)) hc (hs m i (by omega) hik)
      · have hc' : lt (p.getD k 0) (p.getD m 0) = false := by simpa using hc
        have hlt : lt (p.getD m 0) (p.getD k 0) = true := by
          rcases L.tot _ _ (g.lt m (by omega)) (g.lt k (by omega)) (fun e => by have := g.inj _ _ (by omega) (by omega) e; omega) with h | h
          · exact h
          · exact absurd h hc
        simp only [goT, hc', Bool.false_eq_true, if_false]
        refine place_ok L g hk hs f (m + 1) r (by omega) (by omega) (by omega) (fun i hi => ?_) h2
        by_cases e : i = m
        · subst e; exact hlt
        · exact L.trans _ _ _ (g.lt i (by omega)) (g.lt m (by omega)) (g.lt k (by omega)) (hs i m (by omega) (by omega)) hlt
theorem bub_get {p : Array Nat} {k l : Nat} (hk : k < p.size) (hl : l ≤ k) (i : Nat) : (bubble p k (k - l)).getD i 0 = if i = l then p.getD k 0 else if l < i ∧ i ≤ k then p.getD (i - 1) 0 else p.getD i 0 := by
  rw [getD_get, getElem?_bubble hk (k - l) (by omega) i]
  rw [show k - (k - l) = l by omega]
  by_cases h1 : i = l
  · rw [if_pos h1, if_pos h1, getD_get]
  · rw [if_neg h1, if_neg h1]
    by_cases h2 : l < i ∧ i ≤ k
    · rw [if_pos h2, if_pos h2, getD_get]
    · rw [if_neg h2, if_neg h2, getD_get]
theorem bin_ok (L : LtN n lt) : ∀ (f k : Nat) (p : Array Nat), Gd n p → f + k = n → Srt lt p k → Gd n (goT lt (kas_bin f p k)) ∧ Srt lt (goT lt (kas_bin f p k)) n
  | 0, k, p, g, e, hs => by
    have : k = n := by omega
    subst this
    exact ⟨g, hs⟩
  | f + 1, k, p, g, e, hs => by
    unfold kas_bin
    rw [goT_bind]
    obtain ⟨a1, a2, a3⟩ := place_ok L g (k := k) (by omega) hs k 0 k (by omega) (by omega) (Nat.le_refl _) (fun i hi => by omega) (fun i h1 h2 => by omega)
    generalize goT lt (kas_place p k k 0 k) = l at a1 a2 a3 ⊢
    have hb := bub_get (p := p) (k := k) (l := l) (by rw [g.size]; omega) a1
    refine bin_ok L f (k + 1) _ (g.perm' (bubble_perm _ _ _)) (by omega) fun i j hij hj => ?_
    rw [hb i, hb j]
    by_cases hi : i = l
    · rw [if_pos hi, if_neg (by omega), if_pos (by omega)]
      exact a3 (j - 1) (by omega) (by omega)
    · rw [if_neg hi]
      by_cases hj' : j = l
      · rw [if_pos hj', if_neg (by omega)]
        exact a2 i (by omega)
      · rw [if_neg hj']
        by_cases h1 : l < i ∧ i ≤ k
        · rw [if_pos h1, if_pos (by omega)]
          exact hs (i - 1) (j - 1) (by omega) (by omega)
        · rw [if_neg h1]
          by_cases h2 : l < j ∧ j ≤ k
          · rw [if_pos h2]
            by_cases e' : i = j - 1
            · omega
            · exact hs i (j - 1) (by omega) (by omega)
          · rw [if_neg h2]
            exact hs i j hij (by omega)
theorem tree_sorts (L : LtN n lt) (hn : 1 ≤ n) : Gd n (goT lt (kas_sort n)) ∧ Srt lt (goT lt (kas_sort n)) n := by
  unfold kas_sort
  rw [goT_bind]
  obtain ⟨m, q, e, h1, h2, g, hs⟩ := count_ok L (Gd.of (p := (List.range n).toArray) (by simp)) hn
  rw [show (List.range n).toArray = List.toArray (List.range n) from rfl] at e
  rw [e]
  show Gd n (goT lt (if m < n then _ else _)) ∧ Srt lt (goT lt (if m < n then _ else _)) n
  by_cases hm : m < n
  · rw [if_pos hm]
    rw [show max m 1 = m by omega]
    exact bin_ok L (n - m) m q g (by omega) hs
  · rw [if_neg hm]
    have : m = n := by omega
    subst this
    exact ⟨g, hs⟩
end
/-- the questions asked are about the items -/
noncomputable def PathIn (n : Nat) (lt : Nat → Nat → Bool) {α : Type} : KasT α → Prop
  | .ret _ => True
  | .ask i j k => i < n ∧ j < n ∧ PathIn n lt (k (lt i j))
theorem PathIn.bind {n : Nat} {lt : Nat → Nat → Bool} {α β : Type} {f : α → KasT β} : ∀ {t : KasT α}, PathIn n lt t → PathIn n lt (f (goT lt t)) → PathIn n lt (t.bind f)
  | .ret a, _, h => h
  | .ask i j k, ⟨h1, h2, h3⟩, h => ⟨h1, h2, PathIn.bind h3 h⟩
noncomputable def Ent (n : Nat) (p : Array Nat) : Prop := (∀ x ∈ p.toList, x < n) ∧ 0 < n
theorem Ent.get {n : Nat} {p : Array Nat} (e : Ent n p) (i : Nat) : p.getD i 0 < n := by
  rw [getD_get]
  cases h : p[i]? with
  | none => exact e.2
  | some x =>
    have : x ∈ p.toList := by
      rw [← Array.getElem?_toList] at h
      exact List.mem_of_getElem? h
    exact e.1 x this
theorem Ent.perm {n : Nat} {p q : Array Nat} (e : Ent n p) (h : q.Perm p) : Ent n q := ⟨fun x hx => e.1 x ((Array.perm_iff_toList_perm.mp h).mem_iff.mp hx), e.2⟩
section
variable {n : Nat} {lt : Nat → Nat → Bool}
theorem asc_in {p : Array Nat} (e : Ent n p) : ∀ f k, PathIn n lt (kas_asc p f k)
  | 0, k => trivial
  | f + 1, k => by
    unfold kas_asc
    refine ⟨e.get _, e.get _, ?_⟩
    dsimp only
    split
    · exact trivial
    · exact asc_in e f (k + 1)
theorem desc_in : ∀ f (p : Array Nat) k q, Ent n p → PathIn n lt (kas_desc f p k q) ∧ (goT lt (kas_desc f p k q)).1.Perm p
  | 0, p, k, q, e => ⟨trivial, Array.Perm.refl _⟩
  | f + 1, p, k, q, e => by
    unfold kas_desc
    simp only [PathIn, goT]
    by_cases hc : lt (p.getD k 0) (p.getD (k - 1) 0) = true
    · simp only [hc, if_true]
      by_cases hq : q > 0
      · simp only [hq, if_true]
        have pm : (kas_rev p (k - (q + 1)) k).Perm p := mirror_perm _ _ _ _
        have ih := desc_in f (kas_rev p (k - (q + 1)) k) (k + 1) 0 (e.perm pm)
        exact ⟨⟨e.get _, e.get _, ih.1⟩, ih.2.trans pm⟩
      · simp only [hq, if_false]
        have ih := desc_in f p (k + 1) 0 e
        exact ⟨⟨e.get _, e.get _, ih.1⟩, ih.2⟩
    · have hc' : lt (p.getD k 0) (p.getD (k - 1) 0) = false := by simpa using hc
      simp only [hc', Bool.false_eq_true, if_false, PathIn, goT]
      by_cases hd : lt (p.getD (k - 1) 0) (p.getD k 0) = true
      · simp only [hd, if_true, PathIn, goT]
        exact ⟨⟨e.get _, e.get _, e.get _, e.get _, trivial⟩, Array.Perm.refl _⟩
      · have hd' : lt (p.getD (k - 1) 0) (p.getD k 0) = false := by simpa using hd
        simp only [hd', Bool.false_eq_true, if_false]
        have ih := desc_in f p (k + 1) (q + 1) e
        exact ⟨⟨e.get _, e.get _, e.get _, e.get _, ih.1⟩, ih.2⟩
theorem tail_in {p : Array Nat} (e : Ent n p) (a b : Nat) : PathIn n lt (kas_tail3 a b p) ∧ (goT lt (kas_tail3 a b p)).2.Perm p := by
  unfold kas_tail3
  have pm : (kas_rev p 0 a).Perm p := mirror_perm _ _ _ _
  refine ⟨PathIn.bind (asc_in (e.perm pm) _ _) trivial, ?_⟩
  rw [goT_bind]; exact pm
theorem descPart_in {p : Array Nat} (e : Ent n p) (a b : Nat) : PathIn n lt (kas_descPart a b p) ∧ (goT lt (kas_descPart a b p)).2.Perm p := by
  unfold kas_descPart
  obtain ⟨d1, d2⟩ := desc_in (lt := lt) (b - (a + 1)) p (a + 1) 0 e
  rw [goT_bind]
  refine ⟨PathIn.bind d1 ?_, ?_⟩
  · split
    · exact (tail_in ((e.perm d2).perm (mirror_perm _ _ _ _)) _ _).1
    · exact (tail_in (e.perm d2) _ _).1
  · split
    · exact ((tail_in ((e.perm d2).perm (mirror_perm _ _ _ _)) _ _).2.trans (mirror_perm _ _ _ _)).trans d2
    · exact (tail_in (e.perm d2) _ _).2.trans d2
theorem count_in {p : Array Nat} (e : Ent n p) (b : Nat) : PathIn n lt (kas_count b p) ∧ (goT lt (kas_count b p)).2.Perm p := by
  unfold kas_count
  rw [goT_bind]
  have key : PathIn n lt ((fun k => if (k == b) = true then KasT.ret (k, p) else if k > 1 then .ask (p.getD 0 0) (p.getD (k - 1) 0) fun c => if c = true then .ret (k, p) else kas_descPart k b (kas_rev p 0 k)
    else kas_descPart k b p) (goT lt (kas_asc p (b - 1) 1))) ∧ (goT lt ((fun k => if (k == b) = true then KasT.ret (k, p) else if k > 1 then .ask (p.getD 0 0) (p.getD (k - 1) 0) fun c => if c = true then .ret (k, p) else kas_descPart k b (kas_rev p 0 k)
    else kas_descPart k b p) (goT lt (kas_asc p (b - 1) 1)))).2.Perm p := by
    generalize goT lt (kas_asc p (b - 1) 1) = m
    dsimp only
    split
    · exact ⟨trivial, Array.Perm.refl _⟩
    · split
      · simp only [PathIn, goT]
        split
        · exact ⟨⟨e.get _, e.get _, trivial⟩, Array.Perm.refl _⟩
        · have pm : (kas_rev p 0 m).Perm p := mirror_perm _ _ _ _
          have d := descPart_in (lt := lt) (e.perm pm) m b
          exact ⟨⟨e.get _, e.get _, d.1⟩, d.2.trans pm⟩
      · exact descPart_in e m b
  exact ⟨PathIn.bind (asc_in e _ _) key.1, key.2⟩
theorem place_in {p : Array Nat} (e : Ent n p) (k : Nat) : ∀ f l r, PathIn n lt (kas_place p k f l r)
  | 0, l, r => trivial
  | f + 1, l, r => by
    unfold kas_place
    split
    · exact trivial
    · refine ⟨e.get _, e.get _, ?_⟩
      dsimp only
      split
      · exact place_in e k f _ _
      · exact place_in e k f _ _
theorem bin_in : ∀ f (p : Array Nat) k, Ent n p → PathIn n lt (kas_bin f p k)
  | 0, p, k, e => trivial
  | f + 1, p, k, e => by
    unfold kas_bin
    exact PathIn.bind (place_in e k _ _ _) (bin_in f _ _ (e.perm (bubble_perm _ _ _)))
theorem sort_in (hn : 0 < n) : PathIn n lt (kas_sort n) := by
  unfold kas_sort
  have e : Ent n (List.toArray (List.range n)) := ⟨fun x hx => by simpa using hx, hn⟩
  obtain ⟨c1, c2⟩ := count_in (lt := lt) e n
  refine PathIn.bind c1 ?_
  split
  · exact bin_in _ _ _ (e.perm c2)
  · exact trivial
end
theorem wp_path {n : Nat} {lt : Nat → Nat → Bool} {α : Type} {cmp : Nat → Nat → (Bool → Shared → Prop) → Shared → Prop} {G : α → Shared → Prop} {s : Shared} (hc : ∀ i j (C : Bool → Shared → Prop), i < n → j < n → C (lt i j) s → cmp i j C s) :
    ∀ {t : KasT α}, PathIn n lt t → G (goT lt t) s → t.kasWp cmp G s
  | .ret a, _, h => h
  | .ask i j k, ⟨h1, h2, h3⟩, h => hc i j _ h1 h2 (wp_path hc h3 h)
end Mine
end
section
open PySem PySem.Spec PySem.Calls PyProof.Rows PySem.P PySem.W
namespace Mine
/-- order of keys -/
noncomputable def lexB : List Int → List Int → Bool
  | a :: as, b :: bs => if a = b then lexB as bs else decide (a < b)
  | _, _ => false
theorem lexB_trans : ∀ {a b c : List Int}, lexB a b = true → lexB b c = true → lexB a c = true
  | [], _, _, h, _ => by simp [lexB] at h
  | _ :: _, [], _, h, _ => by simp [lexB] at h
  | _ :: _, _ :: _, [], _, h => by simp [lexB] at h
  | a :: as, b :: bs, c :: cs, h1, h2 => by
    unfold lexB at h1 h2 ⊢
    by_cases e1 : a = b <;> by_cases e2 : b = c
    · subst e1 e2
      simp only [if_true] at h1 h2 ⊢
      exact lexB_trans h1 h2
    · subst e1
      simp only [e2, if_true, if_false] at h1 h2 ⊢
      exact h2
    · subst e2
      simp only [e1, if_true, if_false] at h1 h2 ⊢
      exact h1
    · simp only [e1, e2, if_false, decide_eq_true_eq] at h1 h2
      have : ¬ a = c := by omega
      simp only [this, if_false, decide_eq_true_eq]
      omega
theorem lexB_tot : ∀ {a b : List Int}, a.length = b.length → a ≠ b → lexB a b = true ∨ lexB b a = true
  | [], [], _, h => absurd rfl h
  | [], _ :: _, h, _ => by simp at h
  | _ :: _, [], h, _ => by simp at h
  | a :: as, b :: bs, hl, h => by
    unfold lexB
    by_cases e : a = b
    · subst e
      simp only [if_true]
      exact lexB_tot (by simpa using hl) fun e => h (by rw [e])
    · have e' : ¬ b = a := fun z => e z.symm
      simp only [e, e', if_false, decide_eq_true_eq]
      omega
theorem lexB_asym : ∀ {a b : List Int}, lexB a b = true → lexB b a = false
  | [], _, h => by simp [lexB] at h
  | _ :: _, [], h => by simp [lexB] at h
  | a :: as, b :: bs, h => by
    unfold lexB at h ⊢
    by_cases e : a = b
    · subst e
      simp only [if_true] at h ⊢
      exact lexB_asym h
    · have e' : ¬ b = a := fun z => e z.symm
      simp only [e, e', if_false, decide_eq_true_eq, decide_eq_false_iff_not] at h ⊢
      omega
noncomputable abbrev KT := List Int × List V
noncomputable def tupK (x : KT) : V := .tup (x.1.map .int ++ x.2)
theorem RelL.app_inv {h : Heap} : ∀ {vs ws : List V} {xs : List Value}, RelL h (vs ++ ws) xs → ∃ ys zs, xs = ys ++ zs ∧ RelL h vs ys ∧ RelL h ws zs
  | [], ws, xs, r => ⟨[], xs, rfl, by simp [RelL], r⟩
  | v :: vs, ws, xs, r => by
    obtain ⟨x, ys, rfl, rx, r'⟩ := RelL.cons_inv (vs := vs ++ ws) r
    obtain ⟨y1, z1, rfl, r1, r2⟩ := RelL.app_inv r'
    exact ⟨x :: y1, z1, rfl, ⟨_, _, rfl, rx, r1⟩, r2⟩
theorem lex_wp {prog : Program} {w : World} {A : Around} {b fin : Bool} {Q : Bool → Shared → Prop} {s : Shared} {h : Heap} : ∀ {ka kb : List Int} {ta tb : List Value} {xs ys : List Value} (i : Nat), ka.length = kb.length → ka ≠ kb →
    RelL h (ka.map .int) xs → RelL h (kb.map .int) ys → Q (lexB ka kb) s → KatLex prog w A b fin Q ((xs ++ ta).zip (ys ++ tb)) i s
  | [], [], _, _, _, _, _, _, hne, _, _, _ => absurd rfl hne
  | [], _ :: _, _, _, _, _, _, hl, _, _, _, _ => by simp at hl
  | _ :: _, [], _, _, _, _, _, hl, _, _, _, _ => by simp at hl
  | a :: ka, c :: kb, ta, tb, xs, ys, i, hl, hne, ra, rb, hq => by
    obtain ⟨x, xs, rfl, ⟨t, rfl⟩, ra'⟩ := RelL.cons_inv (v := .int a) (vs := ka.map .int) ra
    obtain ⟨y, ys, rfl, ⟨u, rfl⟩, rb'⟩ := RelL.cons_inv (v := .int c) (vs := kb.map .int) rb
    refine kat_cons (wpAny_eqBool_int ?_)
    by_cases e : a = c
    · subst e
      rw [beq_self_eq_true]
      refine kat_yes (lex_wp (i + 1) (by simpa using hl) (fun z => hne (by rw [z])) ra' rb' ?_)
      simpa [lexB] using hq
    · have eb : (a == c) = false := by simpa using e
      rw [eb]
      refine kat_no ?_
      have hq' : Q (decide (a < c)) s := by simpa [lexB, e] using hq
      cases (b && i == 0)
      · exact kat_one _ _ (PySem.P.lt_int hq')
      · exact oneLt_int hq'
theorem lexB_irr : ∀ a : List Int, lexB a a = false
  | [] => rfl
  | a :: as => by unfold lexB; rw [if_pos rfl]; exact lexB_irr as
noncomputable def Simple (v : V) : Prop := (∃ n, v = .int n) ∨ ∃ x, v = .str x
theorem lex_same {prog : Program} {w : World} {A : Around} {b fin : Bool} {Q : Bool → Shared → Prop} {s : Shared} {h : Heap} : ∀ {vs : List V} {xs : List Value} (i : Nat), (∀ v ∈ vs, Simple v) → RelL h vs xs → Q fin s → KatLex prog w A b fin Q (xs.zip xs) i s
  | [], xs, i, _, r, hq => by
    rw [show xs = [] from r]; exact hq
  | v :: vs, xs, i, hv, r, hq => by
    obtain ⟨x, ys, rfl, rx, r'⟩ := RelL.cons_inv r
    have ih := lex_same (prog := prog) (w := w) (A := A) (b := b) (fin := fin) (Q := Q) (s := s) (i + 1) (fun u hu => hv u (.tail _ hu)) r' hq
    rcases hv v (.head _) with ⟨n, rfl⟩ | ⟨z, rfl⟩
    · obtain ⟨t, rfl⟩ := rx
      refine kat_cons (wpAny_eqBool_int ?_)
      rw [beq_self_eq_true]
      exact kat_yes ih
    · obtain ⟨t, rfl⟩ := rx
      refine kat_cons (eqBool_str ?_)
      rw [beq_self_eq_true]
      exact kat_yes ih
theorem tups_of {h h' : Heap} (tk : TupKeep h h') : ∀ {xs : List KT} {vals : List Value}, (∀ x ∈ xs, 1 ≤ x.1.length) → RelL h (xs.map tupK) vals → ∃ fs, KatTups h' vals fs ∧ fs.length = xs.length ∧ ∀ v ∈ fs, ∃ n t, v = Value.int n t
  | [], vals, _, r => ⟨[], by rw [show vals = [] from r]; trivial, rfl, fun v hv => nomatch hv⟩
  | x :: xs, vals, hx, r => by
    obtain ⟨v, vals', rfl, rv, r'⟩ := RelL.cons_inv (v := tupK x) (vs := xs.map tupK) r
    obtain ⟨fs, f1, f2, f3⟩ := tups_of tk (fun y hy => hx y (.tail _ hy)) r'
    obtain ⟨a, items, n, rfl, ht, ri⟩ := rv
    obtain ⟨k0, kr, hk⟩ : ∃ k0 kr, x.1 = k0 :: kr := by
      have := hx x (.head _)
      match hh : x.1 with
      | [] => rw [hh] at this; simp at this
      | k0 :: kr => exact ⟨k0, kr, rfl⟩
    rw [hk] at ri
    obtain ⟨y, ys, e, ⟨t, rfl⟩, _⟩ := RelL.cons_inv (v := .int k0) (vs := kr.map .int ++ x.2) ri
    refine ⟨.int k0 t :: fs, KatTups.cons (tk _ _ _ ht) rfl rfl ?_ f1, by simp [f2], fun v hv => ?_⟩
    · rw [← Array.getElem?_toList, e]; rfl
    · rcases List.mem_cons.mp hv with rfl | hv
      · exact ⟨_, _, rfl⟩
      · exact f3 v hv
noncomputable def ltAt (xs : List KT) (i j : Nat) : Bool := lexB (xs.getD i ([], [])).1 (xs.getD j ([], [])).1
theorem ltAt_ok {xs : List KT} {m : Nat} (hm : ∀ x ∈ xs, x.1.length = m) (hd : (xs.map (·.1)).Nodup) : LtN xs.length (ltAt xs) := by
  have g : ∀ i, (hi : i < xs.length) → xs.getD i ([], []) = xs[i] := fun i hi => by simp [hi]
  refine ⟨fun i j k hi hj hk h1 h2 => lexB_trans h1 h2, fun i j hi hj hne => ?_, fun i j hi hj h => lexB_asym h⟩
  unfold ltAt
  rw [g i hi, g j hj]
  refine lexB_tot (by rw [hm _ (List.getElem_mem _), hm _ (List.getElem_mem _)]) fun e => ?_
  have pw := List.pairwise_iff_getElem.mp hd
  rcases Nat.lt_trichotomy i j with h | h | h
  · exact pw i j (by simpa using hi) (by simpa using hj) h (by simpa using e)
  · exact hne h
  · exact pw j i (by simpa using hj) (by simpa using hi) h (by simpa using e.symm)
section
variable {T : TI} {A : Around} {C : Cs}
theorem Call_sorted {i m : Nat} {a : Addr} {xs : List KT} {K} (hi : C[i]? = some (a, .list (xs.map tupK))) (h2 : 2 ≤ xs.length) (h64 : xs.length < 64) (hm1 : 1 ≤ m) (hm : ∀ x ∈ xs, x.1.length = m) (hd : (xs.map (·.1)).Nodup) (hsm : ∀ x ∈ xs, ∀ v ∈ x.2, Simple v)
    (h : ∀ (b : Addr) (ys : List KT), ys.Perm xs → ys.Pairwise (fun x y => lexB x.1 y.1 = true) → K (.ref b) ((b, .list (ys.map tupK)) :: C)) : Call T A C (.builtin "sorted") [.ref a] K := by
  refine ⟨fun s args k r => ?_⟩
  obtain ⟨x, zs, rfl, rx, r'⟩ := r.cons_inv
  cases r'.nil_inv
  cases rx
  obtain ⟨items, nn, hl, rl⟩ := cell_at k hi
  have hlen := rl.length
  rw [List.length_map] at hlen
  obtain ⟨vals, rfl⟩ : ∃ vals : List Value, items = vals.toArray := ⟨items.toList, by simp⟩
  simp only [List.toList_toArray] at rl hlen
  have hl' : s.heap.IsList a vals.toArray := hl.isList
  refine Calls.call_function_entry kind_sorted plain_sorted entry_sorted (args_sorted1 _) ?_
  unfold Builtin.«sorted»
  refine wpAny_bind (m := checkCount "sorted" 1 1 _) (wpAny_pure ?_)
  refine wpAny_bind (collect_list hl' ?_ (by rw [sizeLine_eq]; omega))
  refine wpAny_bind (wpAny_newList ?_ (by rw [sizeLine_eq]; omega))
  have hsz : ((s.heap.push (seqObj "list" #[] 0)).update s.heap.objs.size (Obj.mapSeq (· ++ vals.toArray))).objs.size = s.heap.objs.size + 1 := by
    rw [Heap.size_update, size_push']
  have hoL : (((s.heap.push (seqObj "list" #[] 0)).update s.heap.objs.size (Obj.mapSeq (· ++ vals.toArray))).push (seqObj "list" vals.toArray 0)).get? (s.heap.objs.size + 1) = some (seqObj "list" vals.toArray 0) := by
    rw [← hsz]; exact Heap.get?_push_size _ rfl
  have keep : ∀ b o, s.heap.get? b = some o → (((s.heap.push (seqObj "list" #[] 0)).update s.heap.objs.size (Obj.mapSeq (· ++ vals.toArray))).push (seqObj "list" vals.toArray 0)).get? b = some o := fun b o q => by
    have hlt : b < s.heap.objs.size := Heap.lt_size q
    rw [Heap.get?_push_ne _ _ _ (by rw [hsz]; exact Nat.ne_of_lt (Nat.lt_succ_of_lt hlt)), Heap.get?_update_ne _ _ _ _ (Nat.ne_of_lt hlt), Heap.get?_push_ne _ _ _ (Nat.ne_of_lt hlt)]
    exact q
  show wpAny _ _ _ _ _ { s with heap := ((s.heap.push (seqObj "list" #[] 0)).update s.heap.objs.size (Obj.mapSeq (· ++ vals.toArray))).push (seqObj "list" vals.toArray 0) }
  rw [hsz]
  generalize ((s.heap.push (seqObj "list" #[] 0)).update s.heap.objs.size (Obj.mapSeq (· ++ vals.toArray))).push (seqObj "list" vals.toArray 0) = h1 at hoL keep ⊢
  have hDn : s.heap.get? (s.heap.objs.size + 1) = none := Heap.get?_none_of_le (Nat.le_succ _)
  generalize s.heap.objs.size + 1 = D at hoL hDn ⊢
  refine wpAny_bind (wpAny_holding (wpAny_call_entry slot_list_sort ⟨_, hoL, rfl⟩ entry_list_sort ?body (args_list_sort _)))
  case body =>
    have s1 := Heap.SameBut.update h1 D (Obj.mapSeq fun _ => (#[] : Array Value))
    obtain ⟨e1, ho1⟩ : ∃ e1, (h1.update D (Obj.mapSeq fun _ => (#[] : Array Value))).get? D = some (seqObj "list" #[] e1) := ⟨_, get?_update_seq hoL fun _ => #[]⟩
    rw [list_sort_plain]
    refine wpAny_bind (listItems_at hoL rfl ?_)
    refine wpAny_bind (listUpdate_at hoL rfl ?_ (by rw [List.size_toArray, sizeLine_eq]; omega) (Nat.zero_le _))
    refine wpAny_bind (seqEpoch_at ho1 rfl ?_)
    refine wpAny_bind (wpAny_newTuple ?_ (by show vals.length ≤ _; rw [sizeLine_eq]; omega))
    refine wpAny_bind (wpAny_newList ?_ (Nat.zero_le _))
    refine wpAny_holding ?_
    show wpAny (Mo T) _ _ _ _ { s with heap := ((h1.update D (Obj.mapSeq fun _ => (#[] : Array Value))).push (seqObj "tuple" vals.toArray 0)).push (seqObj "list" #[] 0) }
    have keep2 : ∀ b o, s.heap.get? b = some o → (((h1.update D (Obj.mapSeq fun _ => (#[] : Array Value))).push (seqObj "tuple" vals.toArray 0)).push (seqObj "list" #[] 0)).get? b = some o := fun b o q =>
      Heap.get?_push_of_some _ (Heap.get?_push_of_some _ ((s1.2 b (fun z => by rw [z, hDn] at q; cases q)).trans (keep b o q)))
    have hD2 : (((h1.update D (Obj.mapSeq fun _ => (#[] : Array Value))).push (seqObj "tuple" vals.toArray 0)).push (seqObj "list" #[] 0)).get? D = some (seqObj "list" #[] e1) := Heap.get?_push_of_some _ (Heap.get?_push_of_some _ ho1)
    generalize ((h1.update D (Obj.mapSeq fun _ => (#[] : Array Value))).push (seqObj "tuple" vals.toArray 0)).push (seqObj "list" #[] 0) = h2' at keep2 hD2 ⊢
    have gr2 : Grow s { s with heap := h2' } := ⟨keep2, rfl, rfl⟩
    dsimp only
    have hn2 : ¬ vals.toArray.size < 2 := by rw [List.size_toArray]; omega
    rw [if_neg hn2, if_neg hn2]
    obtain ⟨fs, f1, f2, f3⟩ := tups_of gr2.tup (fun x hx => by rw [hm x hx]; exact hm1) rl
    refine wpAny_bind (kat_kind (T := .type "int") f1 (by omega) (fun v hv => by
      obtain ⟨z, t, rfl⟩ := f3 v hv
      exact .now) (by simp) ?_)
    have hask : (kas_sort vals.length).kasWp (kas_ask T.prog T.w A.in1.in1 (tuples' (Value.type "int" != Value.type "tuple")) vals) (fun p s'' => p = goT (ltAt xs) (kas_sort vals.length) ∧ s'' = { s with heap := h2' }) { s with heap := h2' } := by
      refine wp_path (n := vals.length) (lt := ltAt xs) (fun i j Cc hi' hj' hC => ?_) (sort_in (by omega)) ⟨rfl, rfl⟩
      have at' : ∀ i, i < vals.length → ∃ x ad its n, xs.getD i ([], []) = x ∧ x ∈ xs ∧ vals.getD i Value.none = .ref ad ∧ IsT h2' ad its n ∧ RelL h2' (x.1.map .int ++ x.2) its.toList := fun i hi => by
        obtain ⟨v, hv, rv⟩ := rl.get (n := i) (v := tupK xs[i]) (by rw [List.getElem?_map, List.getElem?_eq_getElem (by omega)]; rfl)
        obtain ⟨ad, its, n, rfl, ht, ri⟩ := rv
        exact ⟨xs[i], ad, its, n, by simp [show i < xs.length by omega], List.getElem_mem _, by simp [List.getD, hv], gr2.tup _ _ _ ht, ri.keep gr2.tup⟩
      obtain ⟨xi, ai, ii, ni, ei, mi, vi, ti, ri⟩ := at' i hi'
      obtain ⟨xj, aj, ij, nj, ej, mj, vj, tj, rj⟩ := at' j hj'
      unfold kas_ask
      rw [vi, vj]
      by_cases hij : i = j
      · subst hij
        rw [vi] at vj; cases vj
        have e2 : some _ = some _ := ti.symm.trans tj
        refine kat_lt ti rfl ti rfl ?_
        have hf : decide (ii.size < ii.size) = false := by simp
        refine lex_same 0 (vs := xi.1.map .int ++ xi.2) (fun v hv => ?_) ri ?_
        · rcases List.mem_append.mp hv with hv | hv
          · obtain ⟨n, _, rfl⟩ := List.mem_map.mp hv
            exact .inl ⟨n, rfl⟩
          · exact hsm _ mi v hv
        · rw [hf]
          unfold ltAt at hC
          rw [lexB_irr] at hC; exact hC
      · refine kat_lt ti rfl tj rfl ?_
        obtain ⟨y1, z1, e1', r1, _⟩ := RelL.app_inv ri
        obtain ⟨y2, z2, e2', r2, _⟩ := RelL.app_inv rj
        rw [e1', e2']
        refine lex_wp 0 (by rw [hm _ mi, hm _ mj]) (fun e => ?_) r1 r2 ?_
        · have tt := (ltAt_ok hm hd).tot i j (by omega) (by omega) hij
          unfold ltAt at tt
          rw [ei, ej, e] at tt
          rcases tt with tt | tt <;> (have := lexB_asym tt; rw [tt] at this; cases this)
        · unfold ltAt at hC
          rw [ei, ej] at hC; exact hC
    refine wpAny_bind (wpAny_mono (kat_run (Q := fun st' s' => ∃ p : Array Nat, p.size = vals.length ∧ arrOf st' = p.map (kas_item (vals.toArray.zip vals.toArray)) ∧ failedOf st' = none ∧ p = goT (ltAt xs) (kas_sort vals.length) ∧ s' = { s with heap := h2' })
      rfl (by omega) (by omega) (fun p' st' s' a1 a2 a3 a4 => ⟨p', a1, a2, a3, a4⟩) hask) ?_ fun _ _ e => e)
    rintro ⟨⟨⟩, st'⟩ s' ⟨p, hp, har, hf, hpe, rfl⟩
    dsimp only
    have hout := kat_snds rfl har
    have hszp : (List.toArray (p.toList.map fun i => vals.getD i Value.none)).size = vals.length := by rw [List.size_toArray, List.length_map, Array.length_toList, hp]
    rw [hout]
    have s2 := Heap.SameBut.update h2' D (Obj.mapSeq fun _ => List.toArray (p.toList.map fun i => vals.getD i Value.none))
    obtain ⟨c2, hc2⟩ : ∃ c2, (h2'.update D (Obj.mapSeq fun _ => List.toArray (p.toList.map fun i => vals.getD i Value.none))).get? D = some (seqObj "list" (List.toArray (p.toList.map fun i => vals.getD i Value.none)) c2) := ⟨_, get?_update_seq hD2 fun _ => List.toArray (p.toList.map fun i => vals.getD i Value.none)⟩
    refine wpAny_bind (seqEpoch_at hD2 rfl ?_)
    refine wpAny_bind (listUpdate_at hD2 rfl ?_ (Nat.zero_le _) (Nat.le_trans (Nat.le_of_eq hszp) (by rw [sizeLine_eq]; omega)))
    rw [hf]
    simp only [bne_self_eq_false, Bool.false_eq_true, if_false]
    refine wpAny_pure ⟨_, rfl, wpAny_pure ⟨_, rfl, ?_⟩⟩
    have L := ltAt_ok hm hd
    have tsr := tree_sorts L (by omega)
    rw [hlen] at hpe
    rw [← hpe] at tsr
    obtain ⟨gp, sp⟩ := tsr
    have gx : ∀ i, (hi : i < xs.length) → xs.getD i ([], []) = xs[i] := fun i hi => by simp [hi]
    have hmem : ∀ i ∈ p.toList, i < xs.length := fun i hi => by simpa using gp.perm.mem_iff.mp hi
    have hfin : Ok T ((D, Cell.list ((p.toList.map fun i => xs.getD i ([], [])).map tupK)) :: C) { s with heap := h2'.update D (Obj.mapSeq fun _ => List.toArray (p.toList.map fun i => vals.getD i Value.none)) } ∧ Go C s.heap ((D, Cell.list ((p.toList.map fun i => xs.getD i ([], [])).map tupK)) :: C) (h2'.update D (Obj.mapSeq fun _ => List.toArray (p.toList.map fun i => vals.getD i Value.none))) := by
      have gr3 : Grow s { s with heap := h2'.update D (Obj.mapSeq fun _ => List.toArray (p.toList.map fun i => vals.getD i Value.none)) } := ⟨fun b o q => (s2.2 b (fun z => by rw [z, hDn] at q; cases q)).trans (keep2 b o q), rfl, rfl⟩
      refine k.add gr3 ⟨_, _, hc2, ?_⟩ (fun b hb => by cases List.mem_singleton.mp hb; exact hDn) (by simp [foot])
      refine RelL.of_get (by simp) fun i v x hv hx => ?_
      simp only [List.map_map, List.getElem?_map, Option.map_eq_some_iff, List.toList_toArray] at hv hx
      obtain ⟨q, hq, rfl⟩ := hv
      obtain ⟨q', hq', rfl⟩ := hx
      rw [hq] at hq'; cases hq'
      have hlt := hmem q (List.mem_of_getElem? hq)
      obtain ⟨v, hv, rv⟩ := rl.get (n := q) (v := tupK xs[q]) (by rw [List.getElem?_map, List.getElem?_eq_getElem hlt]; rfl)
      have ev : vals.getD q Value.none = v := by simp [List.getD, hv]
      show Rel _ (tupK (xs.getD q ([], []))) (vals.getD q Value.none)
      rw [gx q hlt, ev]
      exact rv.keep gr3.tup
    refine ⟨.ref D, _, h D (p.toList.map fun i => xs.getD i ([], [])) ?_ ?_, rfl, hfin.1, hfin.2⟩
    · have e0 : (List.range xs.length).map (fun i => xs.getD i ([], [])) = xs := by
        apply List.ext_getElem
        · simp
        · intro i h1 h2
          simp at h1
          simp [h1]
      exact (gp.perm.map _).trans (by rw [e0])
    · rw [List.pairwise_map, List.pairwise_iff_getElem]
      intro i j hi hj hij
      have := sp i j hij (by simpa [gp.size] using hj)
      have ge : ∀ i, (hi : i < p.toList.length) → p.getD i 0 = p.toList[i] := fun i hi => by
        have : i < p.size := by simpa using hi
        simp [Array.getD, this]
      rw [ge i hi, ge j hj] at this
      exact this
end
end Mine
end
section
open PySem PySem.Spec PySem.Calls PyProof.Rows PySem.P PySem.W PySem.SeqAt
open AutoSeq1 (wpAny_loadPart')
namespace Mine
/-- values that are compared by what they hold -/
inductive Lv : Nat → V → Prop
  | int (n : Nat) (i : Int) : Lv n (.int i)
  | str (n : Nat) (x : Str) : Lv n (.str x)
  | tup (n : Nat) (vs : List V) (h : ∀ v ∈ vs, Lv n v) : Lv (n + 1) (.tup vs)
theorem all_true (n : Nat) : (List.range n).all (fun _ => true) = true := by simp
theorem eq_same : ∀ (n : Nat) {A : Around} {s : Shared} {v : V} {x y : Value}, Rm A n → Lv n v → Rel s.heap v x → Rel s.heap v y → EqAt A s x y true := by
  intro n
  induction n with
  | zero =>
    intro A s v x y rm l rx ry
    cases l with
    | int _ i => obtain ⟨t, rfl⟩ := rx; obtain ⟨u, rfl⟩ := ry; simpa using EqAt.int_int (A := A) (s := s) i t i u
    | str _ z => obtain ⟨t, rfl⟩ := rx; obtain ⟨u, rfl⟩ := ry; simpa using EqAt.str_str (A := A) (s := s) z t z u
  | succ n ih =>
    intro A s v x y rm l rx ry
    cases l with
    | int _ i => obtain ⟨t, rfl⟩ := rx; obtain ⟨u, rfl⟩ := ry; simpa using EqAt.int_int (A := A) (s := s) i t i u
    | str _ z => obtain ⟨t, rfl⟩ := rx; obtain ⟨u, rfl⟩ := ry; simpa using EqAt.str_str (A := A) (s := s) z t z u
    | tup _ vs h =>
      obtain ⟨a, ia, na, rfl, ta, ra⟩ := rx
      obtain ⟨b, ib, nb, rfl, tb, rb⟩ := ry
      by_cases e : a = b
      · subst e; exact EqAt.same _
      · refine EqAt.of_refs e ?_
        have ea := ra.length
        have eb := rb.length
        rw [Array.length_toList] at ea eb
        have := RcAt.tuples (e := fun _ => true) (IsT.isTuple ta) (IsT.isTuple tb) rm.u (fun j h1 h2 => by
          have hj : j < vs.length := by omega
          obtain ⟨p, hp, rp⟩ := ra.get (n := j) (v := vs[j]) (List.getElem?_eq_getElem hj)
          obtain ⟨q, hq, rq⟩ := rb.get (n := j) (v := vs[j]) (List.getElem?_eq_getElem hj)
          have e1 : ia[j] = p := by
            have : ia[j]? = some p := by simpa using hp
            rw [Array.getElem?_eq_getElem h1] at this; exact Option.some.inj this
          have e2 : ib[j] = q := by
            have : ib[j]? = some q := by simpa using hq
            rw [Array.getElem?_eq_getElem h2] at this; exact Option.some.inj this
          rw [e1, e2]
          exact ih rm.in1 (h _ (List.getElem_mem hj)) rp rq)
        rw [show ia.size = ib.size by omega, Nat.min_self, all_true, beq_self_eq_true] at this
        exact this
theorem list_same {n : Nat} {A : Around} {s : Shared} {vs : List V} {ia ib : Array Value} (rm : Rm A n) (h : ∀ v ∈ vs, Lv n v) (ra : RelL s.heap vs ia.toList) (rb : RelL s.heap vs ib.toList) (j : Nat) (h1 : j < ia.size) (h2 : j < ib.size) : EqAt A s ia[j] ib[j] true := by
  have ea := ra.length
  rw [Array.length_toList] at ea
  have hj : j < vs.length := by omega
  obtain ⟨p, hp, rp⟩ := ra.get (n := j) (v := vs[j]) (List.getElem?_eq_getElem hj)
  obtain ⟨q, hq, rq⟩ := rb.get (n := j) (v := vs[j]) (List.getElem?_eq_getElem hj)
  have e1 : ia[j] = p := by
    have : ia[j]? = some p := by simpa using hp
    rw [Array.getElem?_eq_getElem h1] at this; exact Option.some.inj this
  have e2 : ib[j] = q := by
    have : ib[j]? = some q := by simpa using hq
    rw [Array.getElem?_eq_getElem h2] at this; exact Option.some.inj this
  rw [e1, e2]
  exact eq_same n rm (h _ (List.getElem_mem hj)) rp rq
section
variable {T : TI} {A : Around} {C : Cs}
theorem O_nel {n i j : Nat} {a b : Addr} {vs : List V} {K} (rm : Rm A (n + 1)) (hi : C[i]? = some (a, .list vs)) (hj : C[j]? = some (b, .list vs)) (hl : ∀ v ∈ vs, Lv n v) (h : K (.bool false) C) : OpC T A C .NotEq (.ref a) (.ref b) K := by
  refine ⟨?_⟩
  rintro s _ _ k rfl rfl
  obtain ⟨ia, na, la, ra⟩ := cell_at k hi
  obtain ⟨ib, nb, lb, rb⟩ := cell_at k hj
  have ea := ra.length
  have eb := rb.length
  rw [Array.length_toList] at ea eb
  have := RcNeAt.lists (e := fun _ => true) la.isList lb.isList (by omega) rm.u (fun j h1 h2 => list_same rm.in1 hl ra rb j h1 h2)
  rw [all_true] at this
  exact this T.prog T.w _ _ (ret_growC h k (Grow.refl s) rfl)
end
end Mine
end
section
open PySem PySem.Spec PySem.Calls PyProof.Rows PySem.P PySem.W
namespace Mine
theorem bounds_up {n : Int} (h0 : 0 ≤ n) (k : Nat) : sliceBounds none (some n) none k = (0, min n k, 1) := by
  simp only [sliceBounds, Option.getD_none]
  have h2 : ¬ (n < 0) := by omega
  simp only [h2, if_false, show (1 : Int) > 0 by decide, if_true]
  rw [show max (0 : Int) (min n (k : Int)) = min n k by omega]
theorem drop_zip {α : Type} : ∀ (l : List α) (k : Nat) (m : Int), (l.zipIdx k).filterMap (fun (p : α × Nat) => if (decide ((0 : Int) ≤ p.2) && decide ((p.2 : Int) < m) && ((p.2 : Int) - 0) % 1 == 0) = true then none else some p.1) = l.drop (m - k).toNat
  | [], k, m => by simp
  | x :: l, k, m => by
    rw [List.zipIdx_cons, List.filterMap_cons]
    have ih := drop_zip l (k + 1) m
    have e : (((k : Int) - 0) % 1 == 0) = true := by simp
    by_cases hk : (k : Int) < m
    · have c : (decide ((0 : Int) ≤ k) && decide ((k : Int) < m) && ((k : Int) - 0) % 1 == 0) = true := by
        rw [Bool.and_eq_true, Bool.and_eq_true]
        exact ⟨⟨by simp, by simpa using hk⟩, e⟩
      simp only [c, if_true]
      rw [ih, show (m - k).toNat = (m - (k + 1 : Nat)).toNat + 1 by omega, List.drop_succ_cons]
    · have c : ¬ (decide ((0 : Int) ≤ k) && decide ((k : Int) < m) && ((k : Int) - 0) % 1 == 0) = true := by
        rw [Bool.and_eq_true, Bool.and_eq_true]
        rintro ⟨⟨_, h⟩, _⟩
        exact hk (by simpa using h)
      simp only [c, if_false]
      rw [ih, show (m - k).toNat = 0 by omega, show (m - (k + 1 : Nat)).toNat = 0 by omega]
      simp
theorem RelL.eq {h : Heap} {vs : List V} {xs ys : List Value} (r : RelL h vs xs) (e : xs = ys) : RelL h vs ys := e ▸ r
section
variable {T : TI} {A : Around} {env : Env} {ℓ : Lo} {H : Cs}
theorem Ex_del_upto {o upper : Expr} {p pos pos' : Pos} {K}
    (h : Ev T A env ℓ H o fun v H₁ => Ev T A env ℓ H₁ upper fun w H₂ => ∃ (a : Addr) (j : Nat) (vs : List V) (n : Int), v = .ref a ∧ w = .int n ∧ H₂[j]? = some (a, .list vs) ∧ 0 ≤ n ∧ vs.length ≤ 1000000 ∧ K .next ℓ (H₂.set j (a, .list (vs.drop n.toNat)))) :
    Ex T A env ℓ H (.Delete [.Subscript o (.Slice none (some upper) none p) pos] pos') K := by
  refine ⟨fun s k => ?_⟩
  refine wpAny_Delete (wpAny_deleteEach_cons ?_)
  rw [arm_delete_Subscript]
  refine wpAny_bind (wpAny_mono (h.run s k) ?_ fun _ _ e => e)
  refine fun x s₁ p₀ => p₀.inE fun v H₁ hK r₁ k₁ g₁ => ?_
  refine wpAny_bind (wpAny_holding (wpAny_Slice (wpAny_pure (wpAny_mono (hK.run s₁ k₁) ?_ fun _ _ e => e))))
  refine fun y s₂ p₀ => p₀.inE fun w H₂ hh₀ r₂ k₂ g₂ => ?_
  obtain ⟨a, j, vs, n, rfl, rfl, hj, h0, hn, hK₂⟩ := hh₀
  cases r₁
  obtain ⟨u, rfl⟩ := r₂
  refine wpAny_pure ?_
  have gr := Grow.push s₂ { cls := .type "slice", data := .fields #[.none, .int n u, .none] } s₂.toks
  obtain ⟨k₃, g₃⟩ := k₂.grow gr
  have hj' : (lc env ℓ :: H₂)[j + 1]? = some (a, Cell.list vs) := by simpa using hj
  obtain ⟨items, nn, hl, r⟩ := cell_at k₃ hj'
  have hlen := r.length
  rw [Array.length_toList] at hlen
  have hsl : (s₂.heap.push { cls := .type "slice", data := .fields #[.none, .int n u, .none] }).IsSliceOf s₂.heap.objs.size .none (.int n u) .none := Heap.IsSliceOf.new ..
  obtain ⟨os, hos, hcs, hds⟩ := hsl
  refine wpAny_bind (wpAny_standAt (wpAny_bind (wpAny_holding ?_)))
  have hTs : Shared.TypeIs { s₂ with heap := s₂.heap.push { cls := .type "slice", data := .fields #[.none, .int n u, .none] } } (.ref s₂.heap.objs.size) "slice" := ⟨os, hos, hcs⟩
  refine wpAny_delItem_slot (T := "list") ⟨_, hl, rfl⟩ (by decide) F.slot_list_delitem (wpAny_call_entry F.slot_list_delitem ⟨_, hl, rfl⟩ F.entry_list_delitem ?_ (F.args_list_delitem_2 _ _))
  show wpAny _ _ (Builtin.List.listSubscript? (.ref s₂.heap.objs.size) >>= _) _ _ _
  refine wpAny_bind ?_
  unfold Builtin.List.listSubscript?
  refine wpAny_bind (wpAny_specialOf hTs slice_no_index ?_)
  simp only [Option.isNone_none, if_true]
  refine wpAny_pure ?_
  show wpAny _ _ (typeOf (.ref s₂.heap.objs.size) >>= _) _ _ _
  refine wpAny_bind (wpAny_typeOf hTs ?_)
  rw [if_neg (by decide)]
  rw [listSliceParts_eq]
  refine wpAny_bind (wpAny_bind (wpAny_field hos hds (x := .none) rfl (wpAny_bind (wpAny_listPart .none ?_))))
  rw [if_neg (by exact Bool.false_ne_true)]
  refine wpAny_bind (wpAny_field hos hds (x := .none) rfl (wpAny_bind (wpAny_listPart .none ?_)))
  refine wpAny_bind (wpAny_field hos hds (x := .int n u) rfl (wpAny_bind (wpAny_listPart (.int n u) (wpAny_pure ?_))))
  refine wpAny_bind (m := Builtin.List.listItems (.ref a)) ?_
  unfold Builtin.List.listItems
  refine wpAny_bind (wpAny_seqItems hl rfl (wpAny_pure ?_))
  refine wpAny_bind (wpAny_of_eq (sliceIndices_raw none (some n) none items.size (by simp)) ?_)
  rw [bounds_up h0]
  refine wpAny_bind (wpAny_rule ?_)
  refine wpAny_bind (listUpdate_at hl rfl ?_ (by rw [sizeLine_eq]; omega) ?_)
  · refine wpAny_bind (wpAny_letGo (wpAny_pure ⟨_, rfl, ?_⟩))
    refine wpAny_release (wpAny_deleteEach_nil ?_)
    refine (fun z : _ ∧ _ => PostG.stI (v := .next) hK₂ rfl z.1 (((g₁.trans g₂).trans g₃).trans z.2)) (list_upd (vs' := vs.drop n.toNat) (t := s₂.toks) k₃ hj' hl fun tk => ?_)
    refine RelL.eq (r.keep tk |>.drop n.toNat) ?_
    refine Eq.trans ?_ (Eq.symm (show _ = _ from drop_zip items.toList 0 (min n items.size)))
    by_cases hle : n ≤ items.size
    · rw [show (min n (items.size : Int) - (0 : Nat)).toNat = n.toNat by omega]
    · rw [List.drop_eq_nil_of_le (by simp; omega), List.drop_eq_nil_of_le (by simp; omega)]
  · refine Nat.le_trans (Nat.le_of_eq (show _ = (items.toList.drop (min n (items.size : Int) - (0 : Nat)).toNat).length from congrArg List.length (drop_zip items.toList 0 (min n items.size)))) ?_
    rw [List.length_drop, Array.length_toList, sizeLine_eq]; omega
end
end Mine
end
section
open PySem PySem.Spec PySem.Calls PyProof.Rows PySem.P PySem.W
namespace Mine
/-- a new object ahead of the frame -/
noncomputable def frK (env : Env) (ℓ : Lo) (K : V → Cs → Prop) : V → Cs → Prop := fun v C' => ∃ x H', C' = x :: lc env ℓ :: H' ∧ K v (x :: H')
section
variable {T : TI} {A : Around} {env : Env} {ℓ : Lo} {H : Cs}
theorem post_swap {C : Cs} {h : Heap} {K} {x : Value} {s : Shared} (p : PostG T C h Rel (frK env ℓ K) x s) : PostG T C h Rel (inH env ℓ K) x s := by
  obtain ⟨v, _, ⟨y, H', rfl, hK⟩, r, k, g⟩ := p
  have q : (y :: lc env ℓ :: H').Perm (lc env ℓ :: y :: H') := .swap _ _ _
  exact ⟨v, _, ⟨_, rfl, hK⟩, r, k.perm q, g.permR q⟩
theorem Call.swap {C : Cs} {f : Value} {vs : List V} {K} (h : Call T A C f vs (frK env ℓ K)) : Call T A C f vs (inH env ℓ K) := ⟨fun s xs k r => wpAny_mono (h.run s xs k r) (fun _ _ p => post_swap p) fun _ _ e => e⟩
theorem OpU.swap {C : Cs} {value slice : Expr} {v w : V} {K} (h : OpU T A C value slice v w (frK env ℓ K)) : OpU T A C value slice v w (inH env ℓ K) := ⟨fun s x y k r1 r2 => wpAny_mono (h.run s x y k r1 r2) (fun _ _ p => post_swap p) fun _ _ e => e⟩
theorem OpB.swap {C : Cs} {op : Operator} {v w : V} {K} (h : OpB T A C op v w (frK env ℓ K)) : OpB T A C op v w (inH env ℓ K) := ⟨fun s x y k r1 r2 => wpAny_mono (h.run s x y k r1 r2) (fun _ _ p => post_swap p) fun _ _ e => e⟩
theorem Itr.swap {C : Cs} {v : V} {K : Addr → Cs → Prop} (h : Itr T A C v (fun a C' => ∃ x H', C' = x :: lc env ℓ :: H' ∧ K a (x :: H'))) : Itr T A C v (fun a C' => ∃ H₂, C' = lc env ℓ :: H₂ ∧ K a H₂) := ⟨fun s x k r => wpAny_mono (h.run s x k r) (by
  rintro y s' ⟨a, _, ⟨z, H', rfl, hK⟩, rfl, k', g'⟩
  have q : (z :: lc env ℓ :: H').Perm (lc env ℓ :: z :: H') := .swap _ _ _
  exact ⟨a, _, ⟨_, rfl, hK⟩, rfl, k'.perm q, g'.permR q⟩) fun _ _ e => e⟩
end
theorem fdiv2 (n : Nat) (k : Nat) : ((n : Int).fdiv (k : Int)) = ((n / k : Nat) : Int) := by
  rw [Int.fdiv_eq_ediv_of_nonneg _ (by omega)]; rfl
theorem fmod2 (n : Nat) (k : Nat) : ((n : Int).fmod (k : Int)) = ((n % k : Nat) : Int) := by
  rw [Int.fmod_eq_emod_of_nonneg _ (by omega)]; rfl
end Mine
end
section
open PySem PySem.Spec PySem.Calls PyProof.Rows PySem.P PySem.W
namespace Mine
section
variable {T : TI} {A : Around} {env : Env} {ℓ : Lo} {H : Cs}
theorem Ex_assignT {es : List Expr} {kd : Nat} {tpos pos : Pos} {e : Expr} {K} (h : Ev T A env ℓ H e fun v H₁ => Asn T A env ℓ H₁ (.Tuple es kd tpos) v fun ℓ' H' => K .next ℓ' H')
    (hs : swapsWithSole [.Tuple es kd tpos] e pos.line env = pure false := by rfl) (hw : swappedStores [.Tuple es kd tpos] e env = pure none := by rfl) : Ex T A env ℓ H (.Assign [.Tuple es kd tpos] e pos) K := by
  refine ⟨fun s k => ?_⟩
  refine Assign_Tuple (wpAny_mono (h.run s k) ?_ fun _ _ e => e) hs hw
  refine fun x s₁ p₀ => p₀.inE fun v H₁ hK r₁ k₁ g₁ => ?_
  refine wpAny_mono (hK.run s₁ x k₁ r₁) ?_ fun _ _ e => e
  rintro _ s₂ ⟨ℓ', H', hK', k₂, g₂⟩
  exact PostG.stI (v := .next) hK' rfl k₂ (g₁.trans g₂)
theorem Cm_ind {elt target iter : Expr} {scope : Scope} {pos : Pos} {it : Value} {D : Addr} {K : Cs → Prop} {ι : Type} (I : ι → Lo → Cs → Prop) (m : ι → Nat)
    (step : ∀ i ℓ H, I i ℓ H → (∀ j ℓ' H', m j < m i → I j ℓ' H' → Cm T A env ℓ' H' elt target iter scope pos it D K) → Cm T A env ℓ H elt target iter scope pos it D K) (i : ι) {ℓ : Lo} {H : Cs} (h : I i ℓ H) : Cm T A env ℓ H elt target iter scope pos it D K := by
  have key : ∀ n i ℓ H, m i = n → I i ℓ H → Cm T A env ℓ H elt target iter scope pos it D K := by
    intro n
    induction n using Nat.strongRecOn with
    | ind n ih =>
      intro i ℓ H hn hI
      exact step i ℓ H hI fun j ℓ' H' hj hI' => ih (m j) (hn ▸ hj) j ℓ' H' rfl hI'
  exact key _ i ℓ H rfl h
theorem Cm.forget {ℓ' : Lo} {elt target iter : Expr} {scope : Scope} {pos : Pos} {it : Value} {D : Addr} {K : Cs → Prop} (hs : Sub ℓ' ℓ) (h : Cm T A env ℓ' H elt target iter scope pos it D K) : Cm T A env ℓ H elt target iter scope pos it D K := by
  refine ⟨fun s k => ?_⟩
  obtain ⟨k', g'⟩ := k.forget hs
  exact codeAny_mono (h.run s k') fun r s' ⟨f, e, ℓ₂, H₂, hK, k₂, g₂⟩ => ⟨f, e, ℓ₂, H₂, hK, k₂, g'.trans g₂⟩
theorem Exs.perm {sts : List Stmt} {K} {H' : Cs} (p : H.Perm H') (h : Exs T A env ℓ H' sts K) : Exs T A env ℓ H sts K := by
  refine ⟨fun s k => ?_⟩
  have q : (lc env ℓ :: H).Perm (lc env ℓ :: H') := p.cons _
  refine wpAny_mono (h.run s (k.perm q)) ?_ fun _ _ e => e
  rintro x s' ⟨v, C', hK, r, k', g'⟩
  exact ⟨v, C', hK, r, k', g'.permL q.symm⟩
theorem Fo.perm {target : Expr} {it : Value} {body orelse : List Stmt} {K} {H' : Cs} (p : H.Perm H') (h : Fo T A env ℓ H' target it body orelse K) : Fo T A env ℓ H target it body orelse K := by
  refine ⟨fun s k => ?_⟩
  have q : (lc env ℓ :: H).Perm (lc env ℓ :: H') := p.cons _
  exact codeAny_mono (h.run s (k.perm q)) fun r s' ⟨f, e, v, C', hK, r', k', g'⟩ => ⟨f, e, v, C', hK, r', k', g'.permL q.symm⟩
end
noncomputable def zV (l : List Int) : List V := l.map .int
theorem zV_any {h h' : Heap} : ∀ {l : List Int} {xs : List Value}, RelL h (zV l) xs → RelL h' (zV l) xs
  | [], xs, r => r
  | a :: l, xs, r => by
    obtain ⟨x, ys, rfl, rx, r'⟩ := RelL.cons_inv (v := .int a) (vs := zV l) r
    exact ⟨_, _, rfl, rx, zV_any r'⟩
/-- a list of whole numbers among the given things -/
noncomputable def TopInts (T : TI) (a : Addr) (l : List Int) : Prop := a ≠ T.tb ∧ ∃ items, T.h₁.IsList a items ∧ RelL T.h₁ (zV l) items.toList
theorem O_upto_top {T : TI} {A : Around} {C : Cs} {value slice : Expr} {a : Addr} {l : List Int} {n : Int} {K} (ht : TopInts T a l) (h0 : 0 ≤ n) (hn : l.length ≤ 10000000) (h : ∀ b, K (.ref b) ((b, .list (zV (l.take n.toNat))) :: C))
    (hs : ∀ o i, subscripted slice false o i = operate [i, o] (getItem o i) := by intro _ _; rfl) : OpU T A C value slice (.ref a) (.int n) K := by
  refine ⟨?_⟩
  rintro s _ _ k rfl ⟨u, rfl⟩
  obtain ⟨hne, items, ⟨o, ho, r1⟩, r⟩ := ht
  have hl : s.heap.IsList a items := ⟨o, k.top _ _ ho hne, r1⟩
  have hlen := r.length
  rw [Array.length_toList, zV, List.length_map] at hlen
  have gr := Grow.push s { cls := .type "slice", data := .fields #[.none, .int n u, .none] } s.toks
  have hl' := hl.push { cls := .type "slice", data := .fields #[.none, .int n u, .none] }
  refine tail_any (T := "list") (Heap.IsList.typeIs (s := { s with heap := s.heap.push _ }) hl') slot_list_getitem.lookup (wpAny_getItem_list_slice hl' (Heap.IsSliceOf.new ..) .none (.int n u) .none (by simp) ?_ (by rw [sizeLine_eq]; omega)) (hs _ _)
  obtain ⟨k₁, g₁⟩ := k.grow gr
  have gr₂ := Grow.push { s with heap := s.heap.push { cls := .type "slice", data := .fields #[.none, .int n u, .none] } } { cls := .type "list", data := .seq (slicePick items none (some n) none) } s.toks
  obtain ⟨k', g'⟩ := k₁.add gr₂ (a := _) (c := .list (zV (l.take n.toNat))) ⟨_, _, Heap.get?_push_size _ rfl, by
    rw [slicePick_up _ _ h0, zV, List.map_take]; exact zV_any (l := l.take n.toNat) (by rw [zV, List.map_take]; exact r.take _) |> fun q => by rw [zV, List.map_take] at q; exact q⟩ (fun b hb => by cases List.mem_singleton.mp hb; exact get?_end _) (by simp [foot])
  exact ⟨_, _, h _, rfl, k', g₁.trans g'⟩
end Mine
end
section
open PySem PySem.Spec PySem.Calls PyProof.Rows PySem.P
namespace Mine
section
variable {α : Type} {a b c d e f g h i j k m n : α} {l l2 : List α}
theorem pk1 (p : l.Perm (b :: l2)) : (a :: l).Perm (b :: a :: l2) := (p.cons a).trans (List.perm_middle (l₁ := [b])).symm
theorem pk2 (p : l.Perm (b :: c :: l2)) : (a :: l).Perm (b :: c :: a :: l2) := (p.cons a).trans (List.perm_middle (l₁ := [b, c])).symm
theorem pk5 (p : l.Perm (b :: c :: d :: e :: f :: l2)) : (a :: l).Perm (b :: c :: d :: e :: f :: a :: l2) := (p.cons a).trans (List.perm_middle (l₁ := [b, c, d, e, f])).symm
theorem pk7 (p : l.Perm (b :: c :: d :: e :: f :: g :: h :: l2)) : (a :: l).Perm (b :: c :: d :: e :: f :: g :: h :: a :: l2) := (p.cons a).trans (List.perm_middle (l₁ := [b, c, d, e, f, g, h])).symm
theorem pk11 (p : l.Perm (b :: c :: d :: e :: f :: g :: h :: i :: j :: k :: m :: l2)) : (a :: l).Perm (b :: c :: d :: e :: f :: g :: h :: i :: j :: k :: m :: a :: l2) := (p.cons a).trans (List.perm_middle (l₁ := [b, c, d, e, f, g, h, i, j, k, m])).symm
end
theorem perm_tok {α : Type} {X A M R : List α} {t p : α} (h : M.Perm ((X ++ [p]) ++ R)) : (A ++ t :: M).Perm ((X ++ [t] ++ [p]) ++ (A ++ R)) := by
  have h1 : (A ++ t :: M).Perm (A ++ (t :: ((X ++ [p]) ++ R))) := (h.cons t).append_left A
  refine h1.trans ?_
  have h2 : (t :: ((X ++ [p]) ++ R)).Perm ((X ++ [t] ++ [p]) ++ R) := by
    have : ((X ++ [t] ++ [p]) ++ R) = X ++ t :: ([p] ++ R) := by simp
    rw [this]
    have e : t :: ((X ++ [p]) ++ R) = t :: (X ++ ([p] ++ R)) := by simp
    rw [e]
    exact List.perm_middle.symm
  refine (h2.append_left A).trans ?_
  exact List.perm_append_comm_assoc _ _ _
theorem perm_tok' {α : Type} {X A M R : List α} {t p : α} (h : ((X ++ [p]) ++ R).Perm M) : ((X ++ [t] ++ [p]) ++ (A ++ R)).Perm (A ++ t :: M) := (perm_tok h.symm).symm
end Mine
end
section
open PySem PySem.Spec PySem.Calls PyProof.Rows PySem.P PySem.W
namespace Mine
/-- the figures of a number -/
noncomputable def dg (n : Nat) : List Nat := (Nat.toDigits 10 n).map Char.toNat
theorem S_dg (n : Nat) : Str.ofString (toString ((n : Nat) : Int)) = S (dg n) := by
  have := PySem.W.KIN.signs_num n
  unfold S dg
  rw [← this]
theorem dg_reads {n : Nat} (h : n < 10 ^ 10) : PySem.intText? (S (dg n)) = some (n : Int) := by
  rw [← S_dg]
  exact PySem.W.KIN.num_reads (by omega) (by omega)
section
variable {T : TI} {A : Around} {C : Cs}
set_option maxHeartbeats 2000000 in
theorem O_fmt {n : Nat} {K} (hn : n < 10 ^ 6) (h : K (.str (S (dg n))) C) : OpB T A C .Mod (.str (Str.ofString "%d")) (.int n) K := by
  refine ⟨?_⟩
  rintro s _ _ k ⟨t, rfl⟩ ⟨u, rfl⟩
  refine KPc.mod_int (X' := ⟨#[37, 100]⟩) (T := fun i => Str.ofString (toString i)) (by decide +kernel) (by omega) (by omega) ?hm ?_
  case hm => kpc_run
  intro t' tk
  show PostG T C s.heap Rel K (.str (Str.ofString (toString ((n : Nat) : Int))) t') _
  rw [S_dg]
  exact ret_growC h k (Grow.tok s _) ⟨_, rfl⟩
theorem zV_ints {h : Heap} : ∀ {l : List Int} {xs : List Value}, RelL h (zV l) xs → IntsAre xs l
  | [], xs, r => by rw [show xs = [] from r]; exact .nil
  | a :: l, xs, r => by
    obtain ⟨x, ys, rfl, ⟨t, rfl⟩, r'⟩ := RelL.cons_inv (v := .int a) (vs := zV l) r
    exact .cons _ _ (zV_ints r')
theorem ints_zV {h : Heap} {l : List Int} {xs : List Value} (r : IntsAre xs l) : RelL h (zV l) xs := by
  induction r with
  | nil => rfl
  | cons n t _ ih => exact ⟨_, _, rfl, ⟨t, rfl⟩, ih⟩
theorem Call_intS {n : Nat} {K} (hn : n < 10 ^ 6) (h : K (.int n) C) : Call T A C (.type "int") [.str (S (dg n))] K := by
  refine ⟨fun s xs k r => ?_⟩
  obtain ⟨x, ys, rfl, ⟨t, rfl⟩, r'⟩ := r.cons_inv
  cases r'.nil_inv
  refine KIN.call_text (dg_reads (by omega)) ?_ (ret_growC h k (Grow.tok s _) ⟨_, rfl⟩)
  rw [← S_dg]
  exact Nat.le_trans (toString_length_le (k := 10) (by omega) (by decide) (by omega)) (by decide)
/-- xs.pop(0) -/
theorem Call_pop0 {i : Nat} {a : Addr} {vs : List V} {v : V} {K} (hi : C[i]? = some (a, .list (v :: vs))) (hn : vs.length ≤ 1000000) (h : K v (C.set i (a, .list vs))) : Call T A C (.builtin "list.pop") [.ref a, .int 0] K := by
  refine ⟨fun s xs k r => ?_⟩
  obtain ⟨x, ys, rfl, rx, r1⟩ := r.cons_inv
  obtain ⟨y, zs, rfl, ⟨u, rfl⟩, r2⟩ := r1.cons_inv
  cases r2.nil_inv
  cases rx
  obtain ⟨items, n, hl, r⟩ := cell_at k hi
  have hlen := r.length
  rw [Array.length_toList] at hlen
  simp only [List.length_cons] at hlen
  obtain ⟨y, hy, ry⟩ := r.get (n := 0) (v := v) rfl
  refine call_meets F.slot_list_pop ⟨_, hl, rfl⟩ F.entry_list_pop (F.args_list_pop_2 _ _) (MeetsSeq.list_pop_at a items n 0 u 0 y (by decide) (seqIndex_of (by omega) (by omega)) (by simpa using hy) (by rw [sizeLine_eq]; omega)) ⟨hl, ?_⟩
  obtain ⟨k₂, g₂⟩ := list_upd (vs' := vs) (f := fun xs => xs.eraseIdxIfInBounds 0) (t := s.toks) k hi hl (fun tk => by
    have q := (r.keep tk).drop 1
    have e : (items.eraseIdxIfInBounds 0).toList = items.toList.drop 1 := by
      have : 0 < items.size := by omega
      simp only [Array.eraseIdxIfInBounds, this, dif_pos, Array.toList_eraseIdx]
      cases items.toList <;> rfl
    rw [e]; exact q)
  exact ⟨v, _, h, ry.keep (g₂.tup k), k₂, g₂⟩
theorem Call_sumZ {m i : Nat} {a : Addr} {l : List Int} {K} (rm : Rm A m) (hi : C[i]? = some (a, .list (zV l))) (h : K (.int l.sum) C) : Call T A C (.builtin "sum") [.ref a] K := by
  refine ⟨fun s xs k r => ?_⟩
  obtain ⟨x, ys, rfl, rx, r⟩ := r.cons_inv
  cases r.nil_inv
  cases rx
  obtain ⟨items, n, hl, r⟩ := cell_at k hi
  have hI := zV_ints r
  obtain ⟨xs, rfl⟩ := (show AllInts items by simpa using hI.allInts).items
  have hn := hI.numsOf
  rw [nums_intItems] at hn
  refine sum_intListG rm.handled hl.isList fun h' tk t' hk => ?_
  rw [preSum_eq, List.take_of_length_le (by simp), hn]
  exact ret_growC (v := .int l.sum) h k ⟨hk, rfl, rfl⟩ ⟨_, rfl⟩
theorem Call_minZ {m i : Nat} {a : Addr} {l : List Int} {K} (rm : Rm A m) (hi : C[i]? = some (a, .list (zV l))) (hne : 0 < l.length) (h : ∀ M, M ∈ l → (∀ x ∈ l, M ≤ x) → K (.int M) C) : Call T A C (.builtin "min") [.ref a] K := by
  refine ⟨fun s xs k r => ?_⟩
  obtain ⟨x, ys, rfl, rx, r⟩ := r.cons_inv
  cases r.nil_inv
  cases rx
  obtain ⟨items, n, hl, r⟩ := cell_at k hi
  have hI := zV_ints r
  have hlen := hI.length
  obtain ⟨xs, rfl⟩ := (show AllInts items by simpa using hI.allInts).items
  have hn := hI.numsOf
  rw [nums_intItems] at hn
  have hsz : 0 < xs.size := by simp [intItems] at hlen; omega
  refine min_intList rm.handled hl.isList hsz fun v h' tk hv hk => ?_
  obtain ⟨t, rfl⟩ := intItems_at hv
  obtain ⟨h1, h2⟩ := argBest_lt (numAt xs) (xs.size - 1)
  refine ret_growC (v := .int (numAt xs _)) (h _ ?_ fun a ha => ?_) k ⟨hk, rfl, rfl⟩ ⟨_, rfl⟩
  · rw [numAt_eq, hn]; exact PySem.getD_mem (by rw [← hn, List.length_map, Array.length_toList]; omega)
  · rw [← hn] at ha
    obtain ⟨j, hj, rfl⟩ := mem_getD ha
    rw [List.length_map, Array.length_toList] at hj
    rw [← numAt_eq]; exact h2 j (by omega)
theorem Call_sortedZ {i : Nat} {a : Addr} {l : List Int} {K} (hi : C[i]? = some (a, .list (zV l))) (h64 : l.length < 64) (h : ∀ (b : Addr) (l' : List Int), l'.Perm l → l'.Pairwise (· ≤ ·) → K (.ref b) ((b, .list (zV l')) :: C)) : Call T A C (.builtin "sorted") [.ref a] K := by
  refine ⟨fun s args k r => ?_⟩
  obtain ⟨x, zs, rfl, rx, r'⟩ := r.cons_inv
  cases r'.nil_inv
  cases rx
  obtain ⟨items, nn, hl, rl⟩ := cell_at k hi
  have hI := zV_ints rl
  have hlen := hI.length
  obtain ⟨vals, rfl⟩ : ∃ vals : List Value, items = vals.toArray := ⟨items.toList, by simp⟩
  simp only [List.toList_toArray] at hI hlen
  refine sorted_ints hl.isList hI (by omega) fun out ns' a1 a2 a3 => ?_
  obtain ⟨e, he⟩ := sortedAll_at s.heap vals out
  obtain ⟨k', g'⟩ := k.add (s' := { s with heap := sortedAll s.heap vals out }) ⟨fun b o q => sortedAll_old q, rfl, rfl⟩ (a := s.heap.objs.size + 1) (c := .list (zV ns')) ⟨out, e, he, ints_zV a1⟩ (fun b hb => by cases List.mem_singleton.mp hb; exact Heap.get?_none_of_le (Nat.le_succ _)) (by simp [foot])
  exact ⟨_, _, h _ _ a2 a3, rfl, k', g'⟩
end
end Mine
end
section
open PySem PySem.Spec PySem.Calls PyProof.Rows PySem.P PySem.W
namespace Mine
section
variable {T : TI} {A : Around} {C : Cs} {value slice : Expr}
/-- the last item -/
theorem O_item_last {i : Nat} {a : Addr} {vs : List V} {v : V} {K} (hi : C[i]? = some (a, .list vs)) (hne : 0 < vs.length) (hv : vs[vs.length - 1]? = some v) (hn : vs.length ≤ 1000000) (h : K v C)
    (hs : ∀ o i, subscripted slice false o i = operate [o, i] (getItem o i) := by intro _ _; rfl) : OpS T A C value slice (.ref a) (.int (-1)) K := by
  refine ⟨?_⟩
  rintro s _ _ k rfl ⟨u, rfl⟩
  obtain ⟨items, nn, hl, r⟩ := cell_at k hi
  obtain ⟨x, hx, rx⟩ := r.get hv
  have hlen := r.length
  rw [Array.length_toList] at hlen
  refine tail_any hl.isList.typeIs slot_list_getitem.lookup (wpAny_getItem_list_neg (k := -1) hl.isList (by omega) (by omega) (by omega) ?_ (ret_growC h k (Grow.refl s) rx)) (hs _ _)
  rw [← Array.getElem?_toList, ← hx]
  congr 1
  omega
theorem Ev_neg1 {env : Env} {ℓ : Lo} {H : Cs} {e : Expr} {pos : Pos} {K} (h : Ev T A env ℓ H e fun v H₁ => ∃ n, v = .int n ∧ K (.int (-n)) H₁) : Ev T A env ℓ H (.UnaryOp .USub e pos) K := by
  refine ⟨fun s k => ?_⟩
  refine wpAny_UnaryOp (wpAny_mono (h.run s k) ?_ fun _ _ e => e)
  refine fun x s₁ p₀ => p₀.inE fun v H₁ hh r₁ k₁ g₁ => ?_
  obtain ⟨n, rfl, hK⟩ := hh
  obtain ⟨t, rfl⟩ := r₁
  obtain ⟨k₂, g₂⟩ := k₁.grow (Grow.tok s₁ (s₁.toks + 1))
  exact PySem.P.neg_int (PostG.inI (v := .int (-n)) hK ⟨_, rfl⟩ k₂ (g₁.trans g₂))
/-- xs[a:b] -/
structure OpW (T : TI) (A : Around) (C : Cs) (value slice : Expr) (v u w : V) (K : V → Cs → Prop) : Prop where
  run : ∀ s x y z, Ok T C s → Rel s.heap v x → Rel s.heap u y → Rel s.heap w z → wpAny (Mo T) A (subscriptTail value slice x (.ref s.heap.objs.size)) (PostG T C s.heap Rel K) NoE { s with heap := s.heap.push { cls := .type "slice", data := .fields #[y, z, .none] } }
theorem Ev_part {env : Env} {ℓ : Lo} {H : Cs} {value lower upper : Expr} {p pos : Pos} {K}
    (h : Ev T A env ℓ H value fun v H₁ => Ev T A env ℓ H₁ lower fun u H₂ => Ev T A env ℓ H₂ upper fun w H₃ => OpW T A (lc env ℓ :: H₃) value (.Slice (some lower) (some upper) none p) v u w (inH env ℓ K)) : Ev T A env ℓ H (.Subscript value (.Slice (some lower) (some upper) none p) pos) K := by
  refine ⟨fun s k => ?_⟩
  refine Subscript_ (wpAny_mono (h.run s k) ?_ fun _ _ e => e)
  refine fun x s₁ p₀ => p₀.inE fun v H₁ hK r₁ k₁ g₁ => ?_
  refine wpAny_Slice (wpAny_mono (hK.run s₁ k₁) ?_ fun _ _ e => e)
  refine fun y s₂ p₀ => p₀.inE fun u H₂ hK₂ r₂ k₂ g₂ => ?_
  refine wpAny_mono (hK₂.run s₂ k₂) ?_ fun _ _ e => e
  refine fun z s₃ p₀ => p₀.inE fun w H₃ hK₃ r₃ k₃ g₃ => ?_
  refine wpAny_pure (wpAny_mono (hK₃.run s₃ x y z k₃ ((r₁.keep (g₂.tup k₁)).keep (g₃.tup k₂)) (r₂.keep (g₃.tup k₂)) r₃) (fun _ _ p => p.trans ((g₁.trans g₂).trans g₃)) fun _ _ e => e)
theorem O_part {i : Nat} {a : Addr} {vs : List V} {n m : Nat} {K} (hi : C[i]? = some (a, .list vs)) (hnm : n ≤ m) (hm : m ≤ vs.length) (hn : vs.length ≤ 1000000) (h : ∀ b, K (.ref b) ((b, .list ((vs.drop n).take (m - n))) :: C))
    (hs : ∀ o i, subscripted slice false o i = operate [i, o] (getItem o i) := by intro _ _; rfl) : OpW T A C value slice (.ref a) (.int n) (.int m) K := by
  refine ⟨?_⟩
  rintro s _ _ _ k rfl ⟨t, rfl⟩ ⟨u, rfl⟩
  obtain ⟨items, nn, hl, r⟩ := cell_at k hi
  have hlen := r.length
  rw [Array.length_toList] at hlen
  have gr := Grow.push s { cls := .type "slice", data := .fields #[.int n t, .int m u, .none] } s.toks
  have hl' := hl.isList.push { cls := .type "slice", data := .fields #[.int n t, .int m u, .none] }
  refine tail_any (T := "list") (Heap.IsList.typeIs (s := { s with heap := s.heap.push _ }) hl') slot_list_getitem.lookup (wpAny_getItem_list_slice hl' (Heap.IsSliceOf.new ..) (.int n t) (.int m u) .none (by simp) ?_ (by rw [sizeLine_eq]; omega)) (hs _ _)
  obtain ⟨k₁, g₁⟩ := k.grow gr
  have gr₂ := Grow.push { s with heap := s.heap.push { cls := .type "slice", data := .fields #[.int n t, .int m u, .none] } } { cls := .type "list", data := .seq (slicePick items (some n) (some m) none) } s.toks
  obtain ⟨k', g'⟩ := k₁.add gr₂ (a := _) (c := .list ((vs.drop n).take (m - n))) ⟨_, _, Heap.get?_push_size _ rfl, (((((r.drop n).take (m - n)).keep gr.tup).keep gr₂.tup).eq (by rw [slicePick_run _ _ _ (by omega) hnm]))⟩ (fun b hb => by cases List.mem_singleton.mp hb; exact get?_end _) (by simp [foot])
  exact ⟨_, _, h _, rfl, k', g₁.trans g'⟩
/-! the signs of a text -/
theorem Self_sit {i n : Nat} {a : Addr} {x : Str} (hi : C[i]? = some (a, .sit x n)) : SelfIt T C a := fun A s Q k q => by
  obtain ⟨t, hit⟩ := cell_at k hi
  exact wpAny_pyIter_striter_ascii hit q
theorem Nt_sit {i n c : Nat} {a : Addr} {x : Str} {target : Expr} {K} (hi : C[i]? = some (a, .sit x n)) (hv : x.cps[n]? = some c) (h : K (some (.str ⟨#[c]⟩)) (C.set i (a, .sit x (n + 1))))
    (ht : ∀ y, letOwnedTupleGo target (.ref a) y = pure () := by intro _; rfl) : Nt T A C target (.ref a) K := by
  refine ⟨fun s k => ?_⟩
  obtain ⟨t, hit⟩ := cell_at k hi
  refine wpAny_pyNext_ascii_item hit hv fun h' c' hs => ?_
  show wpAny _ _ (letOwnedTupleGo target (.ref a) _) _ _ _
  rw [ht]
  obtain ⟨k', g'⟩ := k.upd (c' := .sit x (n + 1)) (s' := { s with heap := h', toks := s.toks + 1 }) hi (fun b o e hb => (hs.2 b fun z => hb (z ▸ .head _)).trans e) (fun _ => ⟨t, c'⟩) rfl rfl rfl
  exact wpAny_pure ⟨_, _, h, ⟨_, rfl, _, rfl⟩, k', g'⟩
theorem Nt_sit_end {m i n : Nat} {a : Addr} {x : Str} {target : Expr} {K} (rm : Rm A m) (hi : C[i]? = some (a, .sit x n)) (hv : x.cps[n]? = none) (h : K .none (C.eraseIdx i)) : Nt T A C target (.ref a) K := by
  refine ⟨fun s k => ?_⟩
  obtain ⟨t, hit⟩ := cell_at k hi
  refine wpAny_pyNext_ascii_end rm.handled hit hv fun h' hs => ?_
  obtain ⟨k', g'⟩ := k.lose (s' := { s with heap := h' }) hi (fun b o e hb => hs b o (fun z => hb (z ▸ .head _)) e) rfl rfl
  exact ⟨_, _, h, rfl, k', g'⟩
theorem mul_list0 {prog : Program} {w : World} {E : Value → Shared → Prop} {s : Shared} {l : Addr} {items : Array Value} {k : Nat} {x : Int} {u : Tok} {Q : Value → Shared → Prop}
    (hl : s.heap.get? l = some { cls := .type "list", dict := none, data := .seq items k, slots := #[] })
    (hlo : -(2 ^ 63 : Int) ≤ x) (hhi : x < 2 ^ 63) (hsz : items.size * x.toNat ≤ 2 ^ 24)
    (h : Q (.ref s.heap.objs.size) { s with heap := s.heap.push { cls := .type "list", data := .seq (List.foldl (fun x1 x2 => x1 ++ x2) #[] (List.replicate (if items.isEmpty = true then 0 else x.toNat) items)) } }) :
    wpAny (model prog w) A (binaryOp .Mult (.ref l) (.int x u)) Q E s :=
  wpAny_binaryOp_repeat_ref (T := "list") (U := "int") (by decide) ⟨_, hl, rfl⟩ (fun s' => typeIs_int s' x u) noFill_list_mul F.fills_int_mul F.slot_int_rmul repeat_list F.slot_int_index.lookup
    (call_meets F.slot_int_rmul (typeIs_int s x u) F.entry_int_rmul (F.args_int_rmul_2 _ _) (int___rmul___int_list x u l items k)
      ⟨hl, rfl, ⟨_, hl, rfl⟩, call_meets F.slot_list_mul ⟨_, hl, rfl⟩ F.entry_list_mul (F.args_list_mul_2 _ _)
        (AutoListH.list___mul___list_int_3 l items k x u (by simp [Builtin.List.listFitsIndex]; omega) (by omega) (by simp [Builtin.List.listTooLong, sizeLine]; omega))
        ⟨hl, h⟩⟩)
/-- [v] * n -/
theorem O_mulL {i : Nat} {a : Addr} {v : V} {n : Nat} {K} (hi : C[i]? = some (a, .list [v])) (hn : n ≤ 1000000) (h : ∀ b, K (.ref b) ((b, .list (List.replicate n v)) :: C)) : OpB T A C .Mult (.ref a) (.int n) K := by
  refine ⟨?_⟩
  rintro s _ _ k rfl ⟨u, rfl⟩
  obtain ⟨items, nn, hl, r⟩ := cell_at k hi
  obtain ⟨x, ys, e, rx, r'⟩ := r.cons_inv
  rw [show ys = [] from r'] at e
  have ei : items = #[x] := Array.toList_inj.mp e
  subst ei
  refine mul_list0 hl (by omega) (by omega) (by simp; omega) ?_
  have gr := Grow.push s { cls := .type "list", data := .seq (List.foldl (fun x1 x2 => x1 ++ x2) #[] (List.replicate (if (#[x] : Array Value).isEmpty = true then 0 else ((n : Int)).toNat) #[x])) } s.toks
  have key : ∀ (m : Nat) (acc : Array Value) (vs : List V), RelL s.heap vs acc.toList → RelL s.heap (vs ++ List.replicate m v) (List.foldl (fun x1 x2 => x1 ++ x2) acc (List.replicate m #[x])).toList := by
    intro m
    induction m with
    | zero => intro acc vs hr; simpa using hr
    | succ m ih =>
      intro acc vs hr
      have := ih (acc ++ #[x]) (vs ++ [v]) (by simpa using hr.append (RelL.one rx))
      rw [List.replicate_succ, List.replicate_succ, List.foldl_cons]
      simpa using this
  have hrel := (key n #[] [] rfl).keep gr.tup
  obtain ⟨k', g'⟩ := k.add gr (a := s.heap.objs.size) (c := .list (List.replicate n v)) ⟨_, _, Heap.get?_push_size _ rfl, by simpa using hrel⟩ (fun b hb => by cases List.mem_singleton.mp hb; exact get?_end _) (by simp [foot])
  exact ⟨_, _, h _, rfl, k', g'⟩
end
section
variable {T : TI} {A : Around} {env : Env} {ℓ : Lo} {H : Cs}
theorem Tr_or3 {x y z : Expr} {pos : Pos} {K} (h : Tr T A env ℓ H x fun b H₁ => if b then K true H₁ else Tr T A env ℓ H₁ y fun b H₂ => if b then K true H₂ else Tr T A env ℓ H₂ z K) : Tr T A env ℓ H (.BoolOp .Or [x, y, z] pos) K := by
  refine ⟨fun s k => ?_⟩
  refine wpAny_isTrue_BoolOp (wpAny_allTrue_Or_cons (wpAny_mono (h.run s k) ?_ fun _ _ e => e))
  refine fun b s₁ p₀ => p₀.inE fun b' H₁ hK rr₀ k₁ g₁ => ?_
  obtain rfl := rr₀
  cases b with
  | true => exact PostG.inI (v := true) hK rfl k₁ g₁
  | false =>
    refine wpAny_allTrue_Or_cons (wpAny_mono (Tr.run hK s₁ k₁) ?_ fun _ _ e => e)
    refine fun b s₂ p₀ => p₀.inE fun b' H₂ hK₂ rr₀ k₂ g₂ => ?_
    obtain rfl := rr₀
    cases b with
    | true => exact PostG.inI (v := true) hK₂ rfl k₂ (g₁.trans g₂)
    | false =>
      refine wpAny_allTrue_Or_cons (wpAny_mono (Tr.run hK₂ s₂ k₂) ?_ fun _ _ e => e)
      refine fun b s₃ p₀ => p₀.inE fun b' H₃ hK₃ rr₀ k₃ g₃ => ?_
      obtain rfl := rr₀
      cases b with
      | true => exact PostG.inI (v := true) hK₃ rfl k₃ ((g₁.trans g₂).trans g₃)
      | false => exact wpAny_allTrue_Or_nil (PostG.inI (v := false) hK₃ rfl k₃ ((g₁.trans g₂).trans g₃))
end
end Mine
end
section
open PySem PySem.Spec PySem.Calls PyProof.Rows PySem.P
namespace Mine
section
variable {T : TI} {A : Around} {C : Cs}
/-- a def of one parameter whose frame has three cells -/
theorem CallC_cell3 {n : Nat} {a : Addr} {fd : FuncData} {body : List Stmt} {p y z u : Str} {v : V} {K} (d : DefAt T a fd body) (rm : Rm A (n + 1))
    (hbind : ∀ x, bindArgs fd ⟨[x], []⟩ = pure [(p, x)]) (hclo : fd.closure = []) (hp : fd.scope.names.lookup p = some .local) (hcf : ∀ k, cellsFrom k fd.scope.names [] = [(u, k + 2), (z, k + 1), (y, k)]) (hany : fd.scope.names.any (fun p => p.2 == .cell) = true)
    (hzu : (z == u) = false) (hyu : (y == u) = false) (hyz : (y == z) = false)
    (h : ∀ L, Exs T (A.deeper (callEnvC fd L a)) (callEnvC fd L a) [(p, v)] C body (fun fl ℓ' H' => ∃ H'', Turn T (callEnvC fd L a) ℓ' H' H'' ∧ K (retV fl) H''))
    (hco : fd.scope.isCoroutine = false := by rfl) (hgen : fd.scope.isGenerator = false := by rfl) (hk : fd.scope.kind = .function := by rfl) : CallC T A C (.ref a) [v] K := by
  refine ⟨fun s xs k r => ?_⟩
  obtain ⟨x, ys, rfl, rx, r'⟩ := r.cons_inv
  cases r'.nil_inv
  obtain ⟨o, ho, hd⟩ := d.at'
  have hcl : ∀ L, (callEnvC fd L a).cells = [(u, L + 1 + 2), (z, L + 1 + 1), (y, L + 1)] := fun L => hcf (L + 1)
  have own : ∀ L, ownCells (callEnvC fd L a) = [L + 1 + 2, L + 1 + 1, L + 1] := fun L => by
    unfold ownCells
    rw [if_pos]
    · rw [hcl]; rfl
    · show (true && fd.scope.names.any _) = true
      rw [hany]; rfl
  have hlim : s.heap.NoLimit := let ⟨ht, m, hm, e⟩ := d.lim; ⟨m, Ns.top k hm ht, e⟩
  have hcd : s.heap.CodeRec fd.code fd.qualname := let ⟨c, o, vs, t, e, hc, ho, r⟩ := d.code; ⟨c, o, vs, t, e, k.top _ _ ho hc, r⟩
  refine codeAny_call_cells rm.lt (k.top _ _ ho d.ne) hd hlim hcd d.body (hbind x) hclo (fun z hz => by cases List.mem_singleton.mp hz; exact .inl hp) (fun s₁ ic => ?_) hco hgen hk
  obtain ⟨h₁, tk, rfl⟩ := ic.toInCall.same
  have gr : Grow s { s with heap := h₁, toks := tk } := ⟨ic.toInCall.keep, rfl, rfl⟩
  have hkl : (callEnvC fd s.heap.objs.size a).kindOf p = some .local := hp
  have c1 := ic.cell u (s.heap.objs.size + 1 + 2) (by rw [hcl]; simp)
  have c2 := ic.cell z (s.heap.objs.size + 1 + 1) (by rw [hcl, List.lookup_cons, hzu]; simp)
  have c3 := ic.cell y (s.heap.objs.size + 1) (by rw [hcl, List.lookup_cons, hyu, List.lookup_cons, hyz]; simp)
  obtain ⟨k₀, g₀⟩ := k.add gr (a := s.heap.objs.size) (c := .loc (callEnvC fd s.heap.objs.size a) [(p, v)])
    ⟨rfl, ⟨_, ic.toInCall.ns, fun z w hz => by
      rw [List.lookup_cons] at hz
      cases hb : z == p with
      | false => rw [hb] at hz; cases hz
      | true =>
        rw [hb] at hz; cases hz
        cases beq_iff_eq.mp hb
        exact .inl ⟨hkl, x, by unfold bindL bindL; rw [if_pos hkl]; simp, rx.keep gr.tup⟩⟩, fun c hc => by
      rw [own] at hc
      simp only [List.mem_cons, List.not_mem_nil, or_false] at hc
      rcases hc with rfl | rfl | rfl
      · exact ⟨_, c1⟩
      · exact ⟨_, c2⟩
      · exact ⟨_, c3⟩⟩
    (fun b hb => by
      simp only [foot, own, List.mem_cons, List.not_mem_nil, or_false] at hb
      rcases hb with rfl | rfl | rfl | rfl
      · exact get?_end _
      · exact Heap.get?_none_of_le (by omega)
      · exact Heap.get?_none_of_le (by omega)
      · exact Heap.get?_none_of_le (by omega)) (by
      simp only [foot, own]
      generalize s.heap.objs.size = q
      show ([q, q + 1 + 2, q + 1 + 1, q + 1] : List Nat).Nodup
      have n1 : ∀ k : Nat, q ≠ q + (k + 1) := fun k => by omega
      have n2 : q + 1 + 2 ≠ q + 1 + 1 := by omega
      have n3 : q + 1 + 2 ≠ q + 1 := by omega
      have n4 : q + 1 + 1 ≠ q + 1 := by omega
      have n5 : q ≠ q + 1 + 2 := by omega
      have n6 : q ≠ q + 1 + 1 := by omega
      have n7 : q ≠ q + 1 := by omega
      refine List.nodup_cons.mpr ⟨fun h => ?_, List.nodup_cons.mpr ⟨fun h => ?_, List.nodup_cons.mpr ⟨fun h => ?_, List.nodup_cons.mpr ⟨fun h => (nomatch h), List.nodup_nil⟩⟩⟩⟩
      · rcases List.mem_cons.mp h with e | h
        · exact n5 e
        · rcases List.mem_cons.mp h with e | h
          · exact n6 e
          · exact n7 (List.mem_singleton.mp h)
      · rcases List.mem_cons.mp h with e | h
        · exact n2 e
        · exact n3 (List.mem_singleton.mp h)
      · exact n4 (List.mem_singleton.mp h))
  refine wpAny_mono ((h s.heap.objs.size).run _ k₀) ?_ fun _ _ e => e.elim
  refine fun f s' p₀ => p₀.stE fun fl ℓ' H' hh rf k' g' => ?_
  obtain ⟨H'', ht, hK⟩ := hh
  obtain ⟨k₂, g₂⟩ := ht s' k'
  refine ⟨_, rfl, retV fl, H'', hK, ?_, k₂, (g₀.trans g').trans g₂⟩
  cases fl with
  | next => cases rf; rfl
  | brk => cases rf; rfl
  | cont => cases rf; rfl
  | ret v => obtain ⟨x, rfl, rx⟩ := rf; exact rx
end
section
variable {T : TI} {A : Around} {env : Env} {ℓ : Lo} {H : Cs}
/-- a store into one of a frame's cells -/
structure CellOf (env : Env) (x : Str) (c : Addr) : Prop where
  kind : env.kindOf x = some .cell
  look : env.cells.lookup x = some c
  own : c ∈ ownCells env
  one : ∀ x' c', env.cells.lookup x' = some c' → c' = c → x' = x
theorem Ex_assignD {x : Str} {pos' pos : Pos} {c : Addr} {e : Expr} {K} (co : CellOf env x c) (h : Ev T A env ℓ H e fun v H₁ => ∃ ℓ', Upd x v ℓ ℓ' ∧ K .next ℓ' H₁)
    (hk' : env.scope.kind = .function := by rfl) (hs : swapsWith e (some (.Name x pos')) pos.line env = pure false := by rfl) : Ex T A env ℓ H (.Assign [.Name x pos'] e pos) K := by
  refine ⟨fun s k => ?_⟩
  refine wpAny_Assign_Name (wpAny_mono (h.run s k) ?_ fun _ _ e => e) hs
  refine fun y s₁ p₀ => p₀.inE fun v H₁ hh r₁ k₁ g₁ => ?_
  obtain ⟨ℓ', u, hK⟩ := hh
  exact store_ok u k₁ r₁ hk' (.inr ⟨co.kind, c, co.look, co.own, co.one⟩) fun s' k' g' => PostG.stI (v := .next) hK rfl k' (g₁.trans g')
theorem Asn_nameD {x : Str} {pos : Pos} {c : Addr} {v : V} {K} (co : CellOf env x c) (h : ∃ ℓ', Upd x v ℓ ℓ' ∧ K ℓ' H) (hk' : env.scope.kind = .function := by rfl) : Asn T A env ℓ H (.Name x pos) v K := by
  obtain ⟨ℓ', u, hK⟩ := h
  refine ⟨fun s y k r => ?_⟩
  rw [arm_assign_Name]
  exact wpAny_bind (wpAny_standAt (wpAny_bindName (store_ok u k r hk' (.inr ⟨co.kind, c, co.look, co.own, co.one⟩) fun s' k' g' => ⟨ℓ', H, hK, k', g'⟩)))
end
end Mine
end
section
open PySem PySem.Spec PySem.Calls PyProof.Rows PySem.P
namespace Mine
/-! small sums, each shown once (omega's proofs are long) -/
theorem dec1 {n i : Nat} (h : i < n) : n - (i + 1) < n - i := Nat.sub_succ_lt_self n i h
theorem zdec {n i : Nat} (h : i < n) : ((n - i : Nat) : Int) - 1 = ((n - (i + 1) : Nat) : Int) := by omega
theorem dec1e {n i j : Nat} (e : j = i + 1) (h : i < n) : n - j < n - i := by subst e; exact dec1 h
theorem zdece {n i j : Nat} (e : j = i + 1) (h : i < n) : ((n - j : Nat) : Int) = ((n - i : Nat) : Int) - 1 := by subst e; exact (zdec h).symm
theorem eqLast {j n : Nat} (h : j < n + 1) (e : ¬ j < n) : j = n := Nat.le_antisymm (Nat.le_of_lt_succ h) (Nat.le_of_not_lt e)
theorem zup {n m : Nat} (h : m + 1 ≤ n) : ((n - (m + 1) : Nat) : Int) + 1 = ((n - m : Nat) : Int) := by omega
theorem ltd {t n m : Nat} (h : m + 1 ≤ n) (ht : t ≤ n - (m + 1)) : t + 1 ≤ n - m := by omega
theorem tl6 {t n m : Nat} (h : t ≤ n - (m + 1)) (hn : n ≤ 60) : t ≤ 1000000 := Nat.le_trans h (Nat.le_trans (Nat.sub_le _ _) (Nat.le_trans hn (by decide)))
theorem bl5 {a b r m n c : Nat} (h : a + b = r + c) (hr : r = m) (hm : m + 1 ≤ n) (hn : n ≤ 60) (hc : c ≤ 2) : b ≤ 500 := by omega
theorem zpos' (m : Nat) : 0 < ((m + 1 : Nat) : Int) := Int.ofNat_lt.mpr (Nat.succ_pos m)
theorem zpos {n i : Nat} (h : i < n) : 0 < ((n - i : Nat) : Int) := Int.ofNat_lt.mpr (Nat.sub_pos_of_lt h)
theorem zend {n i : Nat} (h : ¬ i < n) : ((n - i : Nat) : Int) ≤ 0 := by rw [Nat.sub_eq_zero_of_le (Nat.le_of_not_lt h)]; decide
theorem z62 {n : Nat} (h : n ≤ 1000000) : (n : Int) < 2 ^ 62 := Int.lt_of_le_of_lt (Int.ofNat_le.mpr h) (by decide)
theorem z62' (n : Nat) : -(2 ^ 62) ≤ (n : Int) := Int.le_trans (by decide) (Int.natCast_nonneg n)
theorem z63 {n : Nat} (h : n ≤ 1000000) : (n : Int) < 2 ^ 63 := Int.lt_trans (z62 h) (by decide)
theorem mil {n : Nat} (h : n ≤ 100) : n ≤ 1000000 := Nat.le_trans h (by decide)
theorem atEnd {n i : Nat} (h : i ≤ n) (k : ¬ i < n) : i = n := Nat.le_antisymm h (Nat.le_of_not_lt k)
theorem zsucc (i : Nat) : ((i + 1 : Nat) : Int) - 1 = (i : Int) := by omega
section
variable {T : TI} {A : Around} {C : Cs} {value slice : Expr}
theorem O_itemN {i : Nat} {a : Addr} {vs : List V} {x : Int} {n : Nat} {v : V} {K} (hi : C[i]? = some (a, .list vs)) (e : x = (n : Int)) (hn : n ≤ 1000000) (hv : vs[n]? = some v) (h : K v C)
    (hs : ∀ o i, subscripted slice false o i = operate [o, i] (getItem o i) := by intro _ _; rfl) : OpS T A C value slice (.ref a) (.int x) K := by
  subst e
  exact O_item hi (Int.natCast_nonneg n) (z63 hn) (by rw [Int.toNat_natCast]; exact hv) h hs
theorem Itr_rngN {j : Nat} {r : Addr} {a b : Int} {p q n : Nat} {K} (hj : C[j]? = some (r, .rng a b 1)) (ea : a = (p : Int)) (eb : b = (q : Int)) (hp : p ≤ 1000000) (hq : q ≤ 1000000) (hn : q = p + n) (h : ∀ i, K i ((i, .rit a n 1) :: C)) : Itr T A C (.ref r) K := by
  subst ea eb hn
  exact Itr_rng hj (z62' _) (z62 hp) (z62' _) (z62 hq) (by split <;> omega) h
end
end Mine
end
namespace Mine
-- the walk
local macro_rules | `(tactic| walk_at "lk") => `(tactic| repeat (first | with_reducible exact lk_hit | (with_reducible refine lk_miss ?_ ?_; (case refine_1 => decide +kernel))))
local macro_rules | `(tactic| walk_at "up") => `(tactic| repeat (first | with_reducible exact Upd.nil | with_reducible exact Upd.hit | (with_reducible apply Upd.miss; (case hne => decide +kernel))))
local macro_rules | `(tactic| walk_at "pm") => `(tactic| repeat (first | with_reducible exact List.Perm.refl _ | with_reducible refine List.Perm.cons _ ?_ | with_reducible refine pk1 ?_ | with_reducible refine pk2 ?_ | with_reducible refine pk3 ?_ | with_reducible refine pk4 ?_ | with_reducible refine pk5 ?_ | with_reducible refine pk6 ?_ | with_reducible refine pk7 ?_ | with_reducible refine pk8 ?_ | with_reducible refine pk9 ?_ | with_reducible refine pk10 ?_ | with_reducible refine pk11 ?_ | with_reducible refine pk12 ?_))
local macro_rules | `(tactic| walk_at "ev") => `(tactic| first
  | refine Ev_int ?_ | refine Ev_str ?_ | refine Ev_none ?_ | refine Ev_bool ?_
  | (refine Ev_name (v := ?v) ?l ?_; (case l => walk_at "lk"))
  | refine Ev_binop ?_ | refine Ev_compare ?_ | refine Ev_upto ?_ | refine Ev_sub ?_ | refine Ev_ifexp ?_ | refine Ev_tuple ?_
  | refine Evs_cons ?_ | refine Evs_nil ?_
  | refine Tr_compare ?_ | refine Tr_not ?_ | refine Tr_and ?_ | refine Tr_or ?_
  | refine O_add ?_ | refine O_sub ?_ | refine O_iadd ?_ | refine O_lt ?_ | refine O_le ?_ | refine O_gt ?_ | refine O_eq ?_ | refine O_ne ?_
  | refine Exs_nil ?_ | refine Exs_cons ?_
  | refine Ex_assign ?_ | refine Ex_if ?_ | refine Ex_return ?_ | refine Ex_break ?_ | refine Ex_continue ?_ | refine Ex_setitem ?_ | refine Ex_expr ?_
  | (apply exu; (case u => walk_at "up")) | refine inI ?_ | refine ⟨_, rfl, ?_⟩)
section
open PySem PySem.Spec PySem.Calls PyProof.Rows PySem.P
noncomputable abbrev Pr : Program := PySem.Challenge.pw_mr0160_02


noncomputable def LtOk (T : TI) (v w : V) (b : Bool) : Prop := ∀ A n C K, Rm A (n + 1) → K (.bool b) C → OpC T A C .Lt v w K

noncomputable def siftdn (lt : V → V → Bool) (start : Nat) (x : V) (pos : Nat) (vs : List V) : List V :=
  if start < pos then
    if lt x (vs.getD ((pos - 1) / 2) .none) then siftdn lt start x ((pos - 1) / 2) (vs.set pos (vs.getD ((pos - 1) / 2) .none)) else vs.set pos x
  else vs.set pos x
termination_by pos
decreasing_by omega

/-- a def of the text -/
noncomputable def FnAt (T : TI) (x : String) (i : Nat) : Prop := ∃ a pm cd, GlobIs T (Str.ofString x) (.ref a) ∧ DefAt T a (fdOf (Str.ofString x) pm cd (stAt Pr i)) (fdB (stAt Pr i))
/-- what the walk leans on of the top -/
structure Tp (T : TI) : Prop where
  ng : mainGlobals ≠ T.tb
  nb : builtinsNs ≠ T.tb
  len : BuiltIs T (Str.ofString "len") (.builtin "len")
  heappop : FnAt T "heappop" 1
  heapreplace : FnAt T "heapreplace" 2
  heapify : FnAt T "heapify" 3
  siftdown : FnAt T "_siftdown" 4
  siftup : FnAt T "_siftup" 5
variable {T : TI} {A : Around}
theorem siftdown_body {n : Nat} {a : Addr} {vs : List V} {start pos : Nat} {x : V} {fd : FuncData} {L : Addr} {lt : V → V → Bool} {S : V → Prop}
    (hlt : ∀ v w, S v → S w → LtOk T v w (lt v w)) (hS : ∀ v ∈ vs, S v) (hx : vs[pos]? = some x) (hp : pos < vs.length) (hlen : vs.length ≤ 1000) (rm : Rm A (n + 1)) (hfd : ∃ pm cd, fd = fdOf (Str.ofString "_siftdown") pm cd (stAt Pr 4)) {aa : Addr} {K : Fl → Lo → Cs → Prop}
    (h : ∀ ℓ, K .next ℓ [(a, .list (siftdn lt start x pos vs))]) :
    Exs T A (callEnv fd L aa) [(Str.ofString "heap", .ref a), (Str.ofString "startpos", .int start), (Str.ofString "pos", .int pos)] [(a, .list vs)] (fdB (stAt Pr 4)) K := by
  obtain ⟨pm, cd, rfl⟩ := hfd
  walk_at "ev"
  walk_at "ev"
  walk_at "ev"
  walk_at "ev"
  walk_at "ev"
  refine O_item (i := 1) rfl (by omega) (by omega) (v := x) ?_ ?_
  · simpa using hx
  refine ⟨_, rfl, ?_⟩
  walk_at "ev"
  walk_at "ev"
  refine Ex_while ?_
  have hSx : S x := hS x (List.mem_of_getElem? hx)
  clear hx
  induction pos using Nat.strongRecOn generalizing vs with
  | ind pos ih =>
    rw [siftdn] at h
    refine Wh_step ?_
    repeat walk_at "ev"
    refine sb (fun hb => ?_) (fun hb => ?_)
    · have hlt' : start < pos := by simpa using hb
      rw [if_pos hlt'] at h
      have hpp : (pos - 1) / 2 < vs.length := by omega
      have hg : vs[(pos - 1) / 2]? = some (vs.getD ((pos - 1) / 2) .none) := by simp [List.getD, hpp]
      generalize hpar : vs.getD ((pos - 1) / 2) .none = par at h hg
      have hSp : S par := hS par (List.mem_of_getElem? hg)
      repeat walk_at "ev"
      refine O_rsh (by decide) ?_
      rw [rsh1 (by omega)]
      repeat walk_at "ev"
      refine O_item (i := 1) rfl (by omega) (by omega) (v := par) (by rw [Int.toNat_natCast]; exact hg) ?_
      repeat walk_at "ev"
      refine hlt x par hSx hSp _ n _ _ rm ?_
      repeat walk_at "ev"
      refine sb (fun hb' => ?_) (fun hb' => ?_)
      · rw [if_pos hb'] at h
        repeat walk_at "ev"
        refine ⟨a, 0, vs, pos, rfl, rfl, rfl, by omega, by omega, by omega, ?_⟩
        repeat walk_at "ev"
        refine Wh.forget (ℓ' := [(Str.ofString "heap", .ref a), (Str.ofString "startpos", .int start), (Str.ofString "pos", .int ((pos - 1) / 2 : Nat)), (Str.ofString "newitem", x)]) (by repeat (first | exact Sub_nil | apply Sub_cons)) ?_
        refine ih _ (by omega) (fun v hv => ?_) (by simpa using hpp) (by simpa using hlen) (by simpa using h)
        rcases List.mem_or_eq_of_mem_set hv with hv | rfl
        · exact hS v hv
        · exact hSp
      · rw [if_neg (by rw [hb']; decide)] at h
        repeat walk_at "ev"
        refine ⟨a, 0, vs, pos, rfl, rfl, rfl, by omega, by omega, by omega, ?_⟩
        repeat walk_at "ev"
        simpa using h _
    · have hlt' : ¬ start < pos := by simpa using hb
      rw [if_neg hlt'] at h
      repeat walk_at "ev"
      refine ⟨a, 0, vs, pos, rfl, rfl, rfl, by omega, by omega, by omega, ?_⟩
      walk_at "ev"
      simpa using h _

theorem names3 {x y z : Str} (h1 : (x == y) = false) (h2 : (x == z) = false) (h3 : (y == z) = false) : [x, y, z].Nodup := by
  simp only [beq_eq_false_iff_ne] at h1 h2 h3
  simp [h1, h2, h3]
theorem names2 {x y : Str} (h1 : (x == y) = false) : [x, y].Nodup := by
  simp only [beq_eq_false_iff_ne] at h1
  simp [h1]
theorem len3 {α : Type} {xs : List α} (h : xs.length = 3) : ∃ x y z, xs = [x, y, z] := by
  match xs, h with
  | [x, y, z], _ => exact ⟨x, y, z, rfl⟩
theorem len2 {α : Type} {xs : List α} (h : xs.length = 2) : ∃ x y, xs = [x, y] := by
  match xs, h with
  | [x, y], _ => exact ⟨x, y, rfl⟩
theorem len1 {α : Type} {xs : List α} (h : xs.length = 1) : ∃ x, xs = [x] := by
  match xs, h with
  | [x], _ => exact ⟨x, rfl⟩
theorem all_local {fd : FuncData} {names : List Str} (h : (names.all fun x => decide (fd.scope.names.lookup x = some .local)) = true) : ∀ x ∈ names, fd.scope.names.lookup x = some .local := fun x hx => of_decide_eq_true (List.all_eq_true.mp h x hx)
theorem no_cell {fd : FuncData} (h : (fd.scope.names.all fun x => x.2 != .cell) = true) : ∀ x ∈ fd.scope.names, x.2 ≠ .cell := fun x hx => by simpa using List.all_eq_true.mp h x hx
theorem siftdown_call {n : Nat} {a h : Addr} {vs : List V} {start pos : Nat} {x : V} {pm cd : Value} {lt : V → V → Bool} {S : V → Prop} (d : DefAt T a (fdOf (Str.ofString "_siftdown") pm cd (stAt Pr 4)) (fdB (stAt Pr 4)))
    (hlt : ∀ v w, S v → S w → LtOk T v w (lt v w)) (hS : ∀ v ∈ vs, S v) (hx : vs[pos]? = some x) (hlen : vs.length ≤ 1000) (rm : Rm A (n + 2)) :
    Call T A [(h, .list vs)] (.ref a) [.ref h, .int start, .int pos] (fun v C' => v = .none ∧ C' = [(h, .list (siftdn lt start x pos vs))]) := by
  refine Call_def (n := n + 1) (names := [Str.ofString "heap", Str.ofString "startpos", Str.ofString "pos"]) (ℓ₀ := [(Str.ofString "heap", .ref h), (Str.ofString "startpos", .int start), (Str.ofString "pos", .int pos)]) d rm (fun xs hxs => ?_) (names3 (by decide +kernel) (by decide +kernel) (by decide +kernel)) rfl (no_cell (by kernel_rfl)) (all_local (by kernel_rfl)) (fun L => ?_)
  · obtain ⟨x, y, z, rfl⟩ := len3 hxs
    kernel_rfl
  · exact siftdown_body hlt hS hx (List.getElem?_eq_some_iff.mp hx).1 hlen (rm.deeper _) ⟨pm, cd, rfl⟩ fun ℓ => ⟨_, List.Sublist.refl _, rfl, rfl⟩

noncomputable def upgo (lt : V → V → Bool) (pos : Nat) (vs : List V) : Nat × List V :=
  if 2 * pos + 1 < vs.length then
    if 2 * pos + 2 < vs.length ∧ lt (vs.getD (2 * pos + 1) .none) (vs.getD (2 * pos + 2) .none) = false then upgo lt (2 * pos + 2) (vs.set pos (vs.getD (2 * pos + 2) .none))
    else upgo lt (2 * pos + 1) (vs.set pos (vs.getD (2 * pos + 1) .none))
  else (pos, vs)
termination_by vs.length - pos
decreasing_by all_goals (simp; omega)
theorem upgo_length (lt : V → V → Bool) : ∀ (k pos : Nat) (vs : List V), vs.length - pos ≤ k → (upgo lt pos vs).2.length = vs.length
  | 0, pos, vs, h => by
    rw [upgo, if_neg (by omega)]
  | k + 1, pos, vs, h => by
    rw [upgo]
    split
    · split
      · rw [upgo_length lt k _ _ (by simp; omega)]; simp
      · rw [upgo_length lt k _ _ (by simp; omega)]; simp
    · rfl
theorem upgo_lt (lt : V → V → Bool) : ∀ (k pos : Nat) (vs : List V), vs.length - pos ≤ k → pos < vs.length → (upgo lt pos vs).1 < vs.length
  | 0, pos, vs, h, hp => by omega
  | k + 1, pos, vs, h, hp => by
    rw [upgo]
    split
    · split
      · have := upgo_lt lt k (2 * pos + 2) (vs.set pos (vs.getD (2 * pos + 2) .none)) (by simp; omega) (by simp; omega); simpa using this
      · have := upgo_lt lt k (2 * pos + 1) (vs.set pos (vs.getD (2 * pos + 1) .none)) (by simp; omega) (by simp; omega); simpa using this
    · exact hp
theorem getD_mem {vs : List V} {i : Nat} (h : i < vs.length) : vs.getD i .none ∈ vs := by
  rw [List.getD_eq_getElem?_getD, List.getElem?_eq_getElem h]; exact List.getElem_mem h
theorem getD_at {vs : List V} {i : Nat} (h : i < vs.length) : vs[i]? = some (vs.getD i .none) := by
  rw [List.getD_eq_getElem?_getD, List.getElem?_eq_getElem h]; rfl
theorem upgo_all {S : V → Prop} (lt : V → V → Bool) : ∀ (k pos : Nat) (vs : List V), vs.length - pos ≤ k → (∀ v ∈ vs, S v) → ∀ v ∈ (upgo lt pos vs).2, S v
  | 0, pos, vs, h, hS => by
    rw [upgo, if_neg (by omega)]; exact hS
  | k + 1, pos, vs, h, hS => by
    rw [upgo]
    have hset : ∀ i, i < vs.length → ∀ v ∈ vs.set pos (vs.getD i .none), S v := fun i hi v hv => by
      rcases List.mem_or_eq_of_mem_set hv with hv | rfl
      · exact hS v hv
      · exact hS _ (getD_mem hi)
    split
    · split
      · exact upgo_all lt k _ _ (by simp; omega) (hset _ (by omega))
      · exact upgo_all lt k _ _ (by simp; omega) (hset _ (by omega))
    · exact hS
noncomputable def siftup (lt : V → V → Bool) (pos : Nat) (vs : List V) : List V :=
  siftdn lt pos (vs.getD pos .none) (upgo lt pos vs).1 ((upgo lt pos vs).2.set (upgo lt pos vs).1 (vs.getD pos .none))
theorem siftup_call (tp : Tp T) {n : Nat} {a h : Addr} {vs : List V} {pos : Nat} {pm cd : Value} {lt : V → V → Bool} {S : V → Prop} (d : DefAt T a (fdOf (Str.ofString "_siftup") pm cd (stAt Pr 5)) (fdB (stAt Pr 5)))
    (hlt : ∀ v w, S v → S w → LtOk T v w (lt v w)) (hS : ∀ v ∈ vs, S v) (hp : pos < vs.length) (hlen : vs.length ≤ 1000) (rm : Rm A (n + 4)) :
    Call T A [(h, .list vs)] (.ref a) [.ref h, .int pos] (fun v C' => v = .none ∧ C' = [(h, .list (siftup lt pos vs))]) := by
  obtain ⟨aD, pmD, cdD, hgD, hdD⟩ := tp.siftdown
  refine Call_def (n := n + 3) (names := [Str.ofString "heap", Str.ofString "pos"]) (ℓ₀ := [(Str.ofString "heap", .ref h), (Str.ofString "pos", .int pos)]) d rm (fun xs hxs => ?_) (names2 (by decide +kernel)) rfl (no_cell (by kernel_rfl)) (all_local (by kernel_rfl)) (fun L => ?_)
  · obtain ⟨x, y, rfl⟩ := len2 hxs
    kernel_rfl
  have rm' := rm.deeper (callEnv (fdOf (Str.ofString "_siftup") pm cd (stAt Pr 5)) L a)
  generalize A.deeper (callEnv (fdOf (Str.ofString "_siftup") pm cd (stAt Pr 5)) L a) = A' at rm' ⊢
  refine Exs_cons ?_
  refine Ex_assign ?_
  refine Ev_call ?_
  refine Ev_builtin (v := .bi "len") tp.len tp.ng tp.nb (fun _ => rfl) ?_
  refine ⟨_, rfl, ?_⟩
  repeat walk_at "ev"
  refine ⟨.inl ⟨_, rfl⟩, Call_len (i := 1) rfl (by omega) ?_⟩
  repeat walk_at "ev"
  refine O_item (i := 1) rfl (by omega) (by omega) (v := vs.getD pos .none) (by rw [Int.toNat_natCast]; exact getD_at hp) ?_
  repeat walk_at "ev"
  refine O_mul (.of_left (by decide)) ?_
  repeat walk_at "ev"
  refine Ex_while ?_
  have hSx : S (vs.getD pos .none) := hS _ (getD_mem hp)
  have hR : siftdn lt pos (vs.getD pos .none) (upgo lt pos vs).1 ((upgo lt pos vs).2.set (upgo lt pos vs).1 (vs.getD pos .none)) = siftup lt pos vs := rfl
  generalize siftup lt pos vs = R at hR ⊢
  generalize vs.getD pos .none = x at hR hSx ⊢
  refine Wh_ind (ι := Nat × List V) (fun i ℓ H => ℓ = [(Str.ofString "heap", V.ref h), (Str.ofString "pos", V.int i.1), (Str.ofString "endpos", V.int vs.length), (Str.ofString "startpos", V.int pos), (Str.ofString "newitem", x), (Str.ofString "childpos", V.int (2 * (i.1 : Int) + 1))] ∧ H = [(h, Cell.list i.2)] ∧
    i.1 < i.2.length ∧ i.2.length = vs.length ∧ (∀ v ∈ i.2, S v) ∧ siftdn lt pos x (upgo lt i.1 i.2).1 ((upgo lt i.1 i.2).2.set (upgo lt i.1 i.2).1 x) = R) (fun i => i.2.length - i.1) ?_ (pos, vs) ⟨rfl, rfl, hp, rfl, hS, hR⟩
  rintro ⟨p, ws⟩ ℓ H ⟨rfl, rfl, hpw, hl, hSw, hRw⟩ ih
  dsimp only at hpw hl hSw hRw ih ⊢
  rw [upgo] at hRw
  have mem : ∀ i, i < ws.length → ∀ v ∈ ws.set p (ws.getD i .none), S v := fun i hi v hv => by
    rcases List.mem_or_eq_of_mem_set hv with hv | rfl
    · exact hSw v hv
    · exact hSw _ (getD_mem hi)
  refine Wh_step ?_
  repeat walk_at "ev"
  refine sb (fun hb => ?_) (fun hb => ?_)
  · have h1 : 2 * p + 1 < ws.length := by simp at hb; omega
    rw [if_pos h1] at hRw
    have e1 : (2 * (p : Int) + 1).toNat = 2 * p + 1 := by omega
    have e2 : (2 * (p : Int) + 1 + 1).toNat = 2 * p + 2 := by omega
    have c1 : (2 * (p : Int) + 1) = ((2 * p + 1 : Nat) : Int) := by omega
    have c2 : (2 * (p : Int) + 1 + 1) = ((2 * p + 2 : Nat) : Int) := by omega
    repeat walk_at "ev"
    refine sb (fun hb2 => ?_) (fun hb2 => ?_)
    · have h2 : 2 * p + 2 < ws.length := by simp at hb2; omega
      repeat walk_at "ev"
      refine O_item (i := 1) rfl (by omega) (by omega) (v := ws.getD (2 * p + 1) .none) (by rw [e1]; exact getD_at h1) ?_
      repeat walk_at "ev"
      refine O_item (i := 1) rfl (by omega) (by omega) (v := ws.getD (2 * p + 2) .none) (by rw [e2]; exact getD_at h2) ?_
      repeat walk_at "ev"
      refine hlt _ _ (hSw _ (getD_mem h1)) (hSw _ (getD_mem h2)) _ _ _ _ rm' ?_
      repeat walk_at "ev"
      refine sb (fun hb3 => ?_) (fun hb3 => ?_)
      · rw [if_pos ⟨h2, by simpa using hb3⟩] at hRw
        repeat walk_at "ev"
        refine O_item (i := 1) rfl (by omega) (by omega) (v := ws.getD (2 * p + 2) .none) (by rw [e2]; exact getD_at h2) ?_
        repeat walk_at "ev"
        refine ⟨h, 0, ws, p, rfl, rfl, rfl, by omega, by omega, by omega, ?_⟩
        repeat walk_at "ev"
        refine O_mul (.of_left (by decide)) ?_
        repeat walk_at "ev"
        rw [c2, Int.toNat_natCast]
        refine Wh.forget (ℓ' := [(Str.ofString "heap", V.ref h), (Str.ofString "pos", V.int (2 * p + 2 : Nat)), (Str.ofString "endpos", V.int vs.length), (Str.ofString "startpos", V.int pos), (Str.ofString "newitem", x), (Str.ofString "childpos", V.int (2 * ((2 * p + 2 : Nat) : Int) + 1))]) (by repeat (first | exact Sub_nil | apply Sub_cons)) ?_
        exact ih (2 * p + 2, ws.set p (ws.getD (2 * p + 2) .none)) _ _ (by simp; omega) ⟨rfl, rfl, by simpa using h2, by simpa using hl, mem _ h2, hRw⟩
      · rw [if_neg (by rintro ⟨_, e⟩; rw [e] at hb3; simp at hb3)] at hRw
        repeat walk_at "ev"
        refine O_item (i := 1) rfl (by omega) (by omega) (v := ws.getD (2 * p + 1) .none) (by rw [e1]; exact getD_at h1) ?_
        repeat walk_at "ev"
        refine ⟨h, 0, ws, p, rfl, rfl, rfl, by omega, by omega, by omega, ?_⟩
        repeat walk_at "ev"
        refine O_mul (.of_left (by decide)) ?_
        repeat walk_at "ev"
        rw [c1, Int.toNat_natCast]
        refine Wh.forget (ℓ' := [(Str.ofString "heap", V.ref h), (Str.ofString "pos", V.int (2 * p + 1 : Nat)), (Str.ofString "endpos", V.int vs.length), (Str.ofString "startpos", V.int pos), (Str.ofString "newitem", x), (Str.ofString "childpos", V.int (2 * ((2 * p + 1 : Nat) : Int) + 1))]) (by repeat (first | exact Sub_nil | apply Sub_cons)) ?_
        exact ih (2 * p + 1, ws.set p (ws.getD (2 * p + 1) .none)) _ _ (by simp; omega) ⟨rfl, rfl, by simpa using h1, by simpa using hl, mem _ h1, hRw⟩
    · have h2 : ¬ 2 * p + 2 < ws.length := by simp at hb2; omega
      rw [if_neg fun e => h2 e.1] at hRw
      refine sbF ?_
      repeat walk_at "ev"
      refine O_item (i := 1) rfl (by omega) (by omega) (v := ws.getD (2 * p + 1) .none) (by rw [e1]; exact getD_at h1) ?_
      repeat walk_at "ev"
      refine ⟨h, 0, ws, p, rfl, rfl, rfl, by omega, by omega, by omega, ?_⟩
      repeat walk_at "ev"
      refine O_mul (.of_left (by decide)) ?_
      repeat walk_at "ev"
      rw [c1, Int.toNat_natCast]
      refine Wh.forget (ℓ' := [(Str.ofString "heap", V.ref h), (Str.ofString "pos", V.int (2 * p + 1 : Nat)), (Str.ofString "endpos", V.int vs.length), (Str.ofString "startpos", V.int pos), (Str.ofString "newitem", x), (Str.ofString "childpos", V.int (2 * ((2 * p + 1 : Nat) : Int) + 1))]) (by repeat (first | exact Sub_nil | apply Sub_cons)) ?_
      exact ih (2 * p + 1, ws.set p (ws.getD (2 * p + 1) .none)) _ _ (by simp; omega) ⟨rfl, rfl, by simpa using h1, by simpa using hl, mem _ h1, hRw⟩
  · have h1 : ¬ 2 * p + 1 < ws.length := by simp at hb; omega
    rw [if_neg h1] at hRw
    repeat walk_at "ev"
    refine ⟨h, 0, ws, p, rfl, rfl, rfl, by omega, by omega, by omega, ?_⟩
    repeat walk_at "ev"
    refine Ev_call ?_
    refine Ev_glob hgD tp.ng ?_
    refine ⟨_, rfl, ?_⟩
    repeat walk_at "ev"
    rw [Int.toNat_natCast]
    refine ⟨hdD.callee _, Call.at (i := 1) (siftdown_call (x := x) hdD hlt (fun v hv => ?_) (by simp [hpw]) (by simp; omega) rm') rfl ?_⟩
    · rcases List.mem_or_eq_of_mem_set hv with hv | rfl
      · exact hSw v hv
      · exact hSx
    rintro v C' ⟨rfl, rfl⟩
    refine ⟨_, rfl, _, rfl, rfl, ?_⟩
    refine Exs_nil ?_
    exact ⟨_, List.Sublist.refl _, rfl, by rw [← hRw]; rfl⟩
end
section
open PySem PySem.Spec PySem.Calls PyProof.Rows PySem.P
variable {T : TI} {A : Around}
theorem heapreplace_call (tp : Tp T) {n : Nat} {a h : Addr} {v0 x : V} {vs : List V} {pm cd : Value} {lt : V → V → Bool} {S : V → Prop} (d : DefAt T a (fdOf (Str.ofString "heapreplace") pm cd (stAt Pr 2)) (fdB (stAt Pr 2)))
    (hlt : ∀ v w, S v → S w → LtOk T v w (lt v w)) (hS : ∀ v ∈ vs, S v) (hx : S x) (hlen : vs.length ≤ 900) (rm : Rm A (n + 5)) :
    Call T A [(h, .list (v0 :: vs))] (.ref a) [.ref h, x] (fun v C' => v = v0 ∧ C' = [(h, .list (siftup lt 0 (x :: vs)))]) := by
  obtain ⟨aD, pmD, cdD, hgD, hdD⟩ := tp.siftup
  refine Call_def (n := n + 4) (names := [Str.ofString "heap", Str.ofString "item"]) (ℓ₀ := [(Str.ofString "heap", .ref h), (Str.ofString "item", x)]) d rm (fun xs hxs => ?_) (names2 (by decide +kernel)) rfl (no_cell (by kernel_rfl)) (all_local (by kernel_rfl)) (fun L => ?_)
  · obtain ⟨x, y, rfl⟩ := len2 hxs
    kernel_rfl
  have rm' := rm.deeper (callEnv (fdOf (Str.ofString "heapreplace") pm cd (stAt Pr 2)) L a)
  generalize A.deeper (callEnv (fdOf (Str.ofString "heapreplace") pm cd (stAt Pr 2)) L a) = A' at rm' ⊢
  repeat walk_at "ev"
  refine O_item (i := 1) rfl (by omega) (by omega) (v := v0) rfl ?_
  repeat walk_at "ev"
  refine ⟨h, 0, _, 0, rfl, rfl, rfl, by omega, by simp, by simp; omega, ?_⟩
  repeat walk_at "ev"
  refine Ev_call ?_
  refine Ev_glob hgD tp.ng ?_
  refine ⟨_, rfl, ?_⟩
  repeat walk_at "ev"
  refine ⟨hdD.callee _, Call.at (i := 1) (siftup_call tp (n := n) (lt := lt) (S := S) (pos := 0) hdD hlt (fun v hv => ?_) (by simp) (by simp; omega) rm') rfl ?_⟩
  · rcases List.mem_cons.mp hv with rfl | hv
    · exact hx
    · exact hS v hv
  rintro _ _ ⟨rfl, rfl⟩
  refine ⟨_, rfl, _, rfl, rfl, ?_⟩
  repeat walk_at "ev"
  exact ⟨_, List.Sublist.refl _, rfl, rfl⟩
noncomputable def popH (lt : V → V → Bool) (vs : List V) (last : V) : V × List V := match vs with
  | [] => (last, [])
  | v0 :: r => (v0, siftup lt 0 (last :: r))
theorem heappop_call (tp : Tp T) {n : Nat} {a h : Addr} {last : V} {vs : List V} {pm cd : Value} {lt : V → V → Bool} {S : V → Prop} (d : DefAt T a (fdOf (Str.ofString "heappop") pm cd (stAt Pr 1)) (fdB (stAt Pr 1)))
    (hlt : ∀ v w, S v → S w → LtOk T v w (lt v w)) (hS : ∀ v ∈ vs, S v) (hx : S last) (hlen : vs.length ≤ 900) (rm : Rm A (n + 5)) :
    Call T A [(h, .list (vs ++ [last]))] (.ref a) [.ref h] (fun v C' => v = (popH lt vs last).1 ∧ C' = [(h, .list (popH lt vs last).2)]) := by
  obtain ⟨aD, pmD, cdD, hgD, hdD⟩ := tp.siftup
  refine Call_def (n := n + 4) (names := [Str.ofString "heap"]) (ℓ₀ := [(Str.ofString "heap", .ref h)]) d rm (fun xs hxs => ?_) (by simp) rfl (no_cell (by kernel_rfl)) (all_local (by kernel_rfl)) (fun L => ?_)
  · obtain ⟨x, rfl⟩ := len1 hxs
    kernel_rfl
  have rm' := rm.deeper (callEnv (fdOf (Str.ofString "heappop") pm cd (stAt Pr 1)) L a)
  generalize A.deeper (callEnv (fdOf (Str.ofString "heappop") pm cd (stAt Pr 1)) L a) = A' at rm' ⊢
  repeat walk_at "ev"
  refine Ev_method ?_
  repeat walk_at "ev"
  refine ⟨_, GM_list (i := 1) rfl F.slot_list_pop F.type_list_pop, .inl ⟨_, rfl⟩, ?_⟩
  repeat walk_at "ev"
  refine ⟨.inl ⟨_, rfl⟩, Call_pop (i := 1) rfl (by omega) ?_⟩
  repeat walk_at "ev"
  refine Tr_value ?_
  repeat walk_at "ev"
  refine T_list (i := 1) rfl (by omega) ?_
  repeat walk_at "ev"
  cases vs with
  | nil =>
    refine sbF ?_
    repeat walk_at "ev"
    exact ⟨_, List.Sublist.refl _, rfl, rfl⟩
  | cons v0 r =>
    refine sbT ?_
    repeat walk_at "ev"
    refine O_item (i := 1) rfl (by omega) (by omega) (v := v0) rfl ?_
    repeat walk_at "ev"
    refine ⟨h, 0, _, 0, rfl, rfl, rfl, by omega, by simp, by omega, ?_⟩
    repeat walk_at "ev"
    refine Ev_call ?_
    refine Ev_glob hgD tp.ng ?_
    refine ⟨_, rfl, ?_⟩
    repeat walk_at "ev"
    refine ⟨hdD.callee _, Call.at (i := 1) (siftup_call tp (n := n) (lt := lt) (S := S) (pos := 0) hdD hlt (fun v hv => ?_) (by simp) (by simp at hlen ⊢; omega) rm') rfl ?_⟩
    · rcases List.mem_cons.mp hv with rfl | hv
      · exact hx
      · exact hS v (.tail _ hv)
    rintro _ _ ⟨rfl, rfl⟩
    refine ⟨_, rfl, _, rfl, rfl, ?_⟩
    repeat walk_at "ev"
    exact ⟨_, List.Sublist.refl _, rfl, rfl⟩
theorem siftdn_length (lt : V → V → Bool) (start : Nat) (x : V) : ∀ (k pos : Nat) (vs : List V), pos ≤ k → (siftdn lt start x pos vs).length = vs.length
  | 0, pos, vs, h => by
    rw [siftdn, if_neg (by omega)]; simp
  | k + 1, pos, vs, h => by
    rw [siftdn]
    split
    · split
      · rw [siftdn_length lt start x k _ _ (by omega)]; simp
      · simp
    · simp
theorem siftdn_all {S : V → Prop} (lt : V → V → Bool) (start : Nat) (x : V) (hx : S x) : ∀ (k pos : Nat) (vs : List V), pos ≤ k → pos < vs.length → (∀ v ∈ vs, S v) → ∀ v ∈ siftdn lt start x pos vs, S v
  | 0, pos, vs, h, hp, hS => by
    rw [siftdn, if_neg (by omega)]
    intro v hv
    rcases List.mem_or_eq_of_mem_set hv with hv | rfl
    · exact hS v hv
    · exact hx
  | k + 1, pos, vs, h, hp, hS => by
    have h0 : ∀ v ∈ vs.set pos x, S v := fun v hv => by
      rcases List.mem_or_eq_of_mem_set hv with hv | rfl
      · exact hS v hv
      · exact hx
    rw [siftdn]
    split
    · split
      · refine siftdn_all lt start x hx k _ _ (by omega) (by simp; omega) fun v hv => ?_
        rcases List.mem_or_eq_of_mem_set hv with hv | rfl
        · exact hS v hv
        · exact hS _ (getD_mem (by omega))
      · exact h0
    · exact h0
theorem siftup_length (lt : V → V → Bool) (pos : Nat) (vs : List V) : (siftup lt pos vs).length = vs.length := by
  unfold siftup
  rw [siftdn_length lt pos _ _ _ _ (Nat.le_refl _), List.length_set, upgo_length lt _ pos vs (Nat.le_refl _)]
theorem siftup_all {S : V → Prop} (lt : V → V → Bool) {pos : Nat} {vs : List V} (hp : pos < vs.length) (hS : ∀ v ∈ vs, S v) : ∀ v ∈ siftup lt pos vs, S v := by
  unfold siftup
  have h1 := upgo_lt lt _ pos vs (Nat.le_refl _) hp
  have h2 := upgo_length lt _ pos vs (Nat.le_refl _)
  have h3 := upgo_all (S := S) lt _ pos vs (Nat.le_refl _) hS
  have hx : S (vs.getD pos .none) := hS _ (getD_mem hp)
  refine siftdn_all lt pos _ hx _ _ _ (Nat.le_refl _) (by rw [List.length_set]; omega) fun v hv => ?_
  rcases List.mem_or_eq_of_mem_set hv with hv | rfl
  · exact h3 v hv
  · exact hx
noncomputable def heapGo (lt : V → V → Bool) : Nat → List V → List V
  | 0, vs => vs
  | k + 1, vs => heapGo lt k (siftup lt k vs)
/-- more of the top -/
structure Tq (T : TI) : Prop extends Tp T where
  range : BuiltIs T (Str.ofString "range") (.type "range")
  rev : BuiltIs T (Str.ofString "reversed") (.type "reversed")
  enum : BuiltIs T (Str.ofString "enumerate") (.type "enumerate")
  list : BuiltIs T (Str.ofString "list") (.type "list")
  iter : BuiltIs T (Str.ofString "iter") (.builtin "iter")
  sorted : BuiltIs T (Str.ofString "sorted") (.builtin "sorted")
theorem heapify_call (tq : Tq T) {n : Nat} {a h : Addr} {vs : List V} {pm cd : Value} {lt : V → V → Bool} {S : V → Prop} (d : DefAt T a (fdOf (Str.ofString "heapify") pm cd (stAt Pr 3)) (fdB (stAt Pr 3)))
    (hlt : ∀ v w, S v → S w → LtOk T v w (lt v w)) (hS : ∀ v ∈ vs, S v) (hlen : vs.length ≤ 900) (rm : Rm A (n + 5)) :
    Call T A [(h, .list vs)] (.ref a) [.ref h] (fun v C' => v = .none ∧ C' = [(h, .list (heapGo lt (vs.length / 2) vs))]) := by
  have tp := tq.toTp
  obtain ⟨aD, pmD, cdD, hgD, hdD⟩ := tp.siftup
  refine Call_def (n := n + 4) (names := [Str.ofString "x"]) (ℓ₀ := [(Str.ofString "x", .ref h)]) d rm (fun xs hxs => ?_) (by simp) rfl (no_cell (by kernel_rfl)) (all_local (by kernel_rfl)) (fun L => ?_)
  · obtain ⟨x, rfl⟩ := len1 hxs
    kernel_rfl
  have rm' := rm.deeper (callEnv (fdOf (Str.ofString "heapify") pm cd (stAt Pr 3)) L a)
  generalize A.deeper (callEnv (fdOf (Str.ofString "heapify") pm cd (stAt Pr 3)) L a) = A' at rm' ⊢
  refine Exs_cons ?_
  refine Ex_assign ?_
  refine Ev_call ?_
  refine Ev_builtin (v := .bi "len") tp.len tp.ng tp.nb (fun _ => rfl) ?_
  refine ⟨_, rfl, ?_⟩
  repeat walk_at "ev"
  refine ⟨.inl ⟨_, rfl⟩, Call_len (i := 1) rfl (by omega) ?_⟩
  repeat walk_at "ev"
  refine Ex_for ?_
  refine Ev_call ?_
  refine Ev_builtin (v := .ty "reversed") tq.rev tp.ng tp.nb (fun _ => rfl) ?_
  refine ⟨_, rfl, ?_⟩
  refine Evs_cons ?_
  refine Ev_call ?_
  refine Ev_builtin (v := .ty "range") tq.range tp.ng tp.nb (fun _ => rfl) ?_
  refine ⟨_, rfl, ?_⟩
  repeat walk_at "ev"
  refine O_fdiv (by omega) (by decide) ?_
  repeat walk_at "ev"
  have hdiv : ((vs.length : Int).fdiv 2) = ((vs.length / 2 : Nat) : Int) := fdiv2 vs.length 2
  rw [hdiv]
  refine ⟨.inr (.inl ⟨_, rfl⟩), Call.swap (Call_range fun r => ⟨_, _, rfl, ?_⟩)⟩
  repeat walk_at "ev"
  refine ⟨.inr (.inl ⟨_, rfl⟩), Call.swap (Call_reversed_rng (j := 1) (n := vs.length / 2) rfl (by omega) (by split <;> omega) (by omega) fun it => ⟨_, _, rfl, ?_⟩)⟩
  refine Itr_rit (j := 1) rfl ⟨_, rfl, ?_⟩
  have hR : heapGo lt (vs.length / 2) vs = heapGo lt (vs.length / 2) vs := rfl
  generalize hRR : heapGo lt (vs.length / 2) vs = R at hR
  refine Fo_ind (ι := Nat × List V) (fun i ℓ H => (∃ ℓ', ℓ = (Str.ofString "x", V.ref h) :: (Str.ofString "n", V.int vs.length) :: ℓ' ∧ (ℓ' = [] ∨ ∃ v, ℓ' = [(Str.ofString "i", v)])) ∧
    H = [(it, .rit ((i.1 : Int) - 1) i.1 (-1)), (r, .rng 0 ((vs.length / 2 : Nat) : Int) 1), (h, .list i.2)] ∧ i.1 ≤ i.2.length ∧ i.2.length = vs.length ∧ (∀ v ∈ i.2, S v) ∧ heapGo lt i.1 i.2 = R) (fun i => i.1) ?_ (vs.length / 2, vs) ⟨⟨[], rfl, .inl rfl⟩, rfl, by show vs.length / 2 ≤ vs.length; omega, rfl, hS, hRR⟩
  rintro ⟨k, ws⟩ ℓ H ⟨⟨ℓ', rfl, hℓ⟩, rfl, hk, hl, hSw, hRw⟩ ih
  dsimp only at hk hl hSw hRw ih ⊢
  refine Fo_step ?_
  cases k with
  | zero =>
    refine Nt_range_end (i := 1) rm' rfl (by simp) ⟨_, rfl, ?_⟩
    refine Exs_nil (Exs_nil ?_)
    refine ⟨[(h, .list ws)], ?_, rfl, ?_⟩
    · exact (List.sublist_cons_self _ _)
    · rw [← hRw]; rfl
  | succ k =>
    refine Nt_range (i := 1) rfl (by simp) ⟨_, rfl, ?_⟩
    refine Asn_name ?_
    have e1 : (((k + 1 : Nat) : Int) - 1) = (k : Int) := by omega
    rw [e1]
    have hu : ∃ ℓ₂, Upd (Str.ofString "i") (.int (k : Int)) ((Str.ofString "x", V.ref h) :: (Str.ofString "n", V.int vs.length) :: ℓ') ℓ₂ ∧ ℓ₂ = [(Str.ofString "x", V.ref h), (Str.ofString "n", V.int vs.length), (Str.ofString "i", .int k)] := by
      rcases hℓ with rfl | ⟨v, rfl⟩
      · refine ⟨_, ?_, rfl⟩
        walk_at "up"
      · refine ⟨_, ?_, rfl⟩
        walk_at "up"
    obtain ⟨_, hu, rfl⟩ := hu
    refine ⟨_, hu, ?_⟩
    refine Exs_cons ?_
    refine Ex_expr ?_
    refine Ev_call ?_
    refine Ev_glob hgD tp.ng ?_
    refine ⟨_, rfl, ?_⟩
    repeat walk_at "ev"
    refine ⟨hdD.callee _, Call.at (i := 3) (siftup_call tp (n := n) (lt := lt) (S := S) (pos := k) hdD hlt hSw (by omega) (by omega) rm') rfl ?_⟩
    rintro _ _ ⟨rfl, rfl⟩
    refine ⟨_, rfl, _, rfl, rfl, ?_⟩
    refine Exs_nil ?_
    refine ih (k, siftup lt k ws) _ _ (by omega) ⟨⟨_, rfl, .inr ⟨_, rfl⟩⟩, ?_, ?_, ?_, ?_, hRw⟩
    · simp
      omega
    · rw [siftup_length]; omega
    · rw [siftup_length]; exact hl
    · exact siftup_all lt (by omega) hSw
end
section
open PySem PySem.Spec PySem.Calls PyProof.Rows PySem.P
variable {T : TI} {A : Around}
noncomputable def fdIn (q : Str) (clos : List (Str × Addr)) (doc pm cd ctv : Value) : Stmt → FuncData
  | .FunctionDef name args body _ _ _ scope _ _ _ => PySem.W.fnX name q args body scope clos .none .none doc pm none cd ctv
  | _ => default
noncomputable def stPos : Stmt → Pos
  | .FunctionDef _ _ _ _ _ _ _ _ _ p => p
  | _ => ⟨0, 0, 0, 0⟩
noncomputable abbrev rdSt : Stmt := (fdB (stAt Pr 9)).getD 2 (.Pass ⟨0, 0, 0, 0⟩)
noncomputable abbrev rdQ : Str := Str.ofString "_law_tape.<locals>._law_read"
noncomputable abbrev rdFd (c : Addr) (doc pm : Value) (c' : Addr) (ctv : Value) : FuncData := fdIn rdQ [(Str.ofString "left", c)] doc pm (.ref c') ctv rdSt
noncomputable def chs (l : List Nat) : List V := sV (l.map fun c => [c])
noncomputable def Lim (T : TI) : Prop := cStatics ≠ T.tb ∧ ∃ m, T.h₁.Ns cStatics m ∧ m "sys.recursionlimit" = none
theorem flat1 : ∀ l : List Nat, (l.map fun c => [c]).flatten = l
  | [] => rfl
  | a :: l => by rw [List.map_cons, List.flatten_cons, flat1 l]; rfl
theorem read_call (lim : Lim T) {n : Nat} {f left c c' tb : Addr} {pos : Pos} {doc pm ctv : Value} {rest : List Nat} (rm : Rm A (n + 3)) (hl : rest.length ≤ 1000000) :
    Call T A [(f, .clo (rdFd c doc pm c' ctv) c (.ref left)), (left, .list (chs rest)), (tb, .tab1 c' pos rdQ)] (.ref f) [.int 1]
      (fun v C' => v = .str (S (rest.take 1)) ∧ C' = [(f, .clo (rdFd c doc pm c' ctv) c (.ref left)), (left, .list (chs (rest.drop 1))), (tb, .tab1 c' pos rdQ)]) := by
  refine (CallC_clo (n := n + 2) (i := 0) (j := 2) (p := Str.ofString "size") (body := fdB rdSt) rfl rfl rm lim rfl rfl rfl (fun x => by kernel_rfl) (by kernel_rfl) (no_cell (by kernel_rfl)) fun L => ?_).call
  have rm' := rm.deeper (callEnv (rdFd c doc pm c' ctv) L f)
  generalize A.deeper (callEnv (rdFd c doc pm c' ctv) L f) = A' at rm' ⊢
  refine Exs_cons ?_
  refine Ex_assign ?_
  refine Ev_method ?_
  refine Ev_str ?_
  refine ⟨_, GM_str F.slot_str_join F.type_str_join, .inl ⟨_, rfl⟩, ?_⟩
  refine Evs_cons ?_
  refine Ev_upto ?_
  refine Ev_free (i := 0) rfl ?_
  repeat walk_at "ev"
  refine OpU.swap (O_upto_list (i := 2) rfl (by omega) (by simp [chs, sV]; omega) fun b => ⟨_, _, rfl, ?_⟩)
  repeat walk_at "ev"
  refine ⟨.inl ⟨_, rfl⟩, Call_join (i := 1) (ls := (rest.take 1).map fun c => [c]) ?_ ?_ ?_⟩
  · simp [chs, sV]
  · rw [flat1]; simp; omega
  rw [flat1]
  repeat walk_at "ev"
  refine Ex_del_upto ?_
  refine Ev_free (i := 1) rfl ?_
  repeat walk_at "ev"
  refine ⟨left, 2, _, 1, rfl, rfl, rfl, by omega, by simp [chs, sV]; omega, ?_⟩
  repeat walk_at "ev"
  refine ⟨_, List.sublist_cons_self _ _, rfl, ?_⟩
  simp [chs, sV]
end
section
open PySem PySem.Spec PySem.Calls PyProof.Rows PySem.P
section
variable {T : TI} {A : Around}
theorem Call.framed {C C₀ Fr : Cs} {f : Value} {vs : List V} {K₀ K} (w : Call T A C f vs K₀) (p : C₀.Perm (C ++ Fr)) (hk : ∀ v C', K₀ v C' → ∃ C'', (C' ++ Fr).Perm C'' ∧ K v C'') : Call T A C₀ f vs K := ⟨fun s xs k r =>
  wpAny_mono (w.run s xs (k.perm p).left r) (fun x s' q => by
    obtain ⟨v, C', hK, r, k', g'⟩ := q
    obtain ⟨k₃, g₃⟩ := (k.perm p).frame k' g'
    obtain ⟨C'', p'', hK''⟩ := hk v C' hK
    exact ⟨v, _, hK'', r, k₃.perm p'', (g₃.permL p.symm).permR p''⟩) fun _ _ e => e⟩
theorem CallC.framed {C C₀ Fr : Cs} {f : Value} {vs : List V} {K₀ K} (w : CallC T A C f vs K₀) (p : C₀.Perm (C ++ Fr)) (hk : ∀ v C', K₀ v C' → ∃ C'', (C' ++ Fr).Perm C'' ∧ K v C'') : CallC T A C₀ f vs K := ⟨fun s xs k r =>
  codeAny_mono (w.run s xs (k.perm p).left r) (fun r s' ⟨x, e, q⟩ => by
    obtain ⟨v, C', hK, r, k', g'⟩ := q
    obtain ⟨k₃, g₃⟩ := (k.perm p).frame k' g'
    obtain ⟨C'', p'', hK''⟩ := hk v C' hK
    exact ⟨x, e, v, _, hK'', r, k₃.perm p'', (g₃.permL p.symm).permR p''⟩)⟩
end
noncomputable def clB : Stmt → List Stmt
  | .ClassDef _ _ _ body _ _ _ _ _ _ _ => body
  | _ => []
noncomputable abbrev mth (i : Nat) : Stmt := (clB (stAt Pr 7)).getD i (.Pass ⟨0, 0, 0, 0⟩)
noncomputable abbrev sn (x : String) : Str := Str.ofString x
noncomputable def MethAt (T : TI) (mN : Str → Option Value) (x q : String) (i : Nat) : Prop :=
  ∃ a o pm cd, mN (sn x) = some (.ref a) ∧ T.h₁.get? a = some o ∧ o.cls = .type "function" ∧ o.data = .func (fdOf (sn q) pm cd (mth i)) ∧ DefAt T a (fdOf (sn q) pm cd (mth i)) (fdB (mth i))
structure Tc (T : TI) (Cl N : Addr) (mN : Str → Option Value) : Prop where
  cls : Cls T Cl N mN
  has : T.h₁.get? Cl ≠ none
  lineno : mN (sn "lineno") = none
  instream : mN (sn "instream") = none
  whitespace : mN (sn "whitespace") = none
  pushback : mN (sn "pushback") = none
  read : mN (sn "read") = none
  init : MethAt T mN "__init__" "_netrclex.__init__" 0
  readc : MethAt T mN "_read_char" "_netrclex._read_char" 1
  token : MethAt T mN "get_token" "_netrclex.get_token" 2
  lim : Lim T
theorem o_lineno : typeLookup (.type "object") (sn "lineno") = pure none := by rw [typeLookup_type, builtinLookup_eq_fast]; kernel_rfl
theorem o_instream : typeLookup (.type "object") (sn "instream") = pure none := by rw [typeLookup_type, builtinLookup_eq_fast]; kernel_rfl
theorem o_whitespace : typeLookup (.type "object") (sn "whitespace") = pure none := by rw [typeLookup_type, builtinLookup_eq_fast]; kernel_rfl
theorem o_pushback : typeLookup (.type "object") (sn "pushback") = pure none := by rw [typeLookup_type, builtinLookup_eq_fast]; kernel_rfl
theorem o_read : typeLookup (.type "object") (sn "read") = pure none := by rw [typeLookup_type, builtinLookup_eq_fast]; kernel_rfl
theorem o_readc : typeLookup (.type "object") (sn "_read_char") = pure none := by rw [typeLookup_type, builtinLookup_eq_fast]; kernel_rfl
theorem o_token : typeLookup (.type "object") (sn "get_token") = pure none := by rw [typeLookup_type, builtinLookup_eq_fast]; kernel_rfl
variable {T : TI} {A : Around} {Cl N : Addr} {mN : Str → Option Value}
/-- the blanks -/
noncomputable def blk : List Nat := [10, 9, 13, 32]
/-- the names of a lexer -/
noncomputable abbrev lexA (n : Int) (t : V) (pb : Addr) : Lo := [(sn "lineno", .int n), (sn "instream", t), (sn "whitespace", .str (S blk)), (sn "pushback", .ref pb)]
noncomputable abbrev tapA (pb f : Addr) : Lo := [(sn "lineno", .int 1), (sn "instream", .none), (sn "whitespace", .str (S blk)), (sn "pushback", .ref pb), (sn "read", .ref f)]
/-- a lexer that stands at a text's rest -/
structure MA where
  x : Addr
  d : Addr
  pb : Addr
  t : Addr
  d2 : Addr
  pb2 : Addr
  f : Addr
  c : Addr
  left : Addr
  doc : Value
  pm : Value
  ctv : Value
noncomputable abbrev rd (Cl : Addr) (c' : Addr) (m : MA) (n : Int) (rest : List Nat) : Cs :=
  [(m.x, .inst Cl m.d (lexA n (.ref m.t) m.pb)), (m.t, .inst Cl m.d2 (tapA m.pb2 m.f)), (m.f, .clo (rdFd m.c m.doc m.pm c' m.ctv) m.c (.ref m.left)), (m.left, .list (chs rest))]
noncomputable def up (n : Int) (rest : List Nat) : Int := if rest.take 1 = [10] then n + 1 else n
theorem readc_call (tc : Tc T Cl N mN) {k : Nat} {c' tb : Addr} {pos : Pos} {m : MA} {n : Int} {rest : List Nat} {a : Addr} {pm cd : Value} (d : DefAt T a (fdOf (sn "_netrclex._read_char") pm cd (mth 1)) (fdB (mth 1))) (rm : Rm A (k + 4)) (hl : rest.length ≤ 1000000) :
    CallC T A (rd Cl c' m n rest ++ [(tb, .tab1 c' pos rdQ)]) (.ref a) [.ref m.x] (fun v C' => v = .str (S (rest.take 1)) ∧ C' = rd Cl c' m (up n rest) (rest.drop 1) ++ [(tb, .tab1 c' pos rdQ)]) := by
  refine CallC_def (n := k + 3) (names := [sn "self"]) (ℓ₀ := [(sn "self", .ref m.x)]) d rm (fun xs hxs => ?_) (by simp) rfl (no_cell (by kernel_rfl)) (all_local (by kernel_rfl)) (fun L => ?_)
  · obtain ⟨x, rfl⟩ := len1 hxs
    kernel_rfl
  have rm' := rm.deeper (callEnv (fdOf (sn "_netrclex._read_char") pm cd (mth 1)) L a)
  generalize A.deeper (callEnv (fdOf (sn "_netrclex._read_char") pm cd (mth 1)) L a) = A' at rm' ⊢
  refine Exs_cons ?_
  refine Ex_assign ?_
  refine Ev_attrcall ?_
  refine Ev_attr tc.cls tc.instream o_instream ?_
  repeat walk_at "ev"
  refine ⟨m.x, 0, m.d, _, .ref m.t, rfl, rfl, by walk_at "lk", (fun id e => nomatch e), ?_⟩
  refine ⟨_, GA_inst (i := 2) tc.cls rfl tc.read o_read (by walk_at "lk"), .inr (.inr ⟨_, rfl⟩), ?_⟩
  repeat walk_at "ev"
  refine ⟨clo_callee (i := 3) rfl, Call.framed (Fr := [lc _ _, (m.x, _), (m.t, _)]) (read_call tc.lim (n := k) rm' hl) (List.perm_append_comm (l₁ := [_, _, _])) ?_⟩
  rintro _ _ ⟨rfl, rfl⟩
  refine ⟨_, (List.perm_append_comm (l₂ := [_, _, _])), _, rfl, ?_⟩
  repeat walk_at "ev"
  refine O_eqS (b := [10]) ?_
  repeat walk_at "ev"
  refine sb (fun hb => ?_) (fun hb => ?_)
  · have hb' : rest.take 1 = [10] := by simpa using hb
    refine Exs_cons ?_
    refine Ex_augattr tc.cls tc.lineno o_lineno tc.has ?_
    repeat walk_at "ev"
    refine ⟨m.x, 0, m.d, _, .int n, rfl, rfl, by walk_at "lk", (fun id e => nomatch e), by simp, ?_⟩
    refine Ev_int ?_
    refine ⟨rfl, O_iadd ⟨rfl, ?_⟩⟩
    repeat walk_at "ev"
    exact ⟨_, List.Sublist.refl _, rfl, by simp only [up, hb', if_true]; rfl⟩
  · have hb' : ¬ rest.take 1 = [10] := by simpa using hb
    repeat walk_at "ev"
    exact ⟨_, List.Sublist.refl _, rfl, by simp only [up, hb', if_false]; rfl⟩
end
section
open PySem PySem.Spec PySem.Calls PyProof.Rows PySem.P
theorem slot_cit_iter : Slot "callable_iterator" "__iter__" "callable_iterator.__iter__" :=
  .of (owner := "callable_iterator") (n := "__iter__") (by rw [typeLookup_type, builtinLookup_eq_fast]; kernel_rfl) (by decide +kernel) (by decide +kernel) (by decide +kernel)
    (by first | exact .inl (by decide +kernel) | exact .inr (by decide +kernel)) (by rw [isSubtype_type]; kernel_rfl)
theorem args_cit_iter_1 (a : Value) : argsOk "callable_iterator.__iter__" ⟨[a], []⟩ := by
  unfold argsOk; rw [signature?_of (id := "callable_iterator.__iter__") (n := ['_', '_', 'r', 'e', 't', 'i', '_', '_']) (o := ['r', 'o', 't', 'a', 'r', 'e', 't', 'i', '_', 'e', 'l', 'b', 'a', 'l', 'l', 'a', 'c']) (by kernel_rfl) owner_cit]; kernel_rfl
theorem entry_cit_iter : entryFor table "callable_iterator.__iter__" = some Builtin.«dict_keyiterator.__iter__» :=
  entryFor_alias (id' := "dict_keyiterator.__iter__") (by rw [← table_eq_fast, table_eq_tree]; kernel_rfl) (by first | rfl | decide +kernel | (unfold String.splitOn; simp +decide [String.splitOnAux])) (by decide +kernel) (by rw [← table_eq_fast, table_eq_tree]; kernel_rfl)
theorem Itr_cit {T : TI} {A : Around} {C : Cs} {j : Nat} {a m f self : Addr} {dead : Bool} {K} (hj : C[j]? = some (a, .cit m f self dead)) (h : K a C) : Itr T A C (.ref a) K := by
  refine ⟨fun s x k r => ?_⟩
  cases r
  obtain ⟨⟨t, hc⟩, hm⟩ := cell_at k hj
  have hT : s.TypeIs (.ref a) "callable_iterator" := ⟨_, hc, by cases dead <;> rfl⟩
  refine wpAny_pyIter_slot hT slot_cit_iter (wpAny_call_entry slot_cit_iter hT entry_cit_iter ?_ (args_cit_iter_1 _))
  show wpAny _ _ (ret (.ref a)) _ _ s
  exact wpAny_pure ⟨_, rfl, "callable_iterator", _, hT, slot_cit_next.lookup, _, _, h, rfl, k, Go.refl _ _⟩
noncomputable def nl (c : Nat) : Int := if c = 10 then 1 else 0
noncomputable def lexQ (tok : List Nat) (n : Int) : List Nat → List Nat × Int × List Nat
  | [] => (tok, n, [])
  | c :: r => if c = 34 then (tok, n, r) else if c = 92 then (match r with | [] => (tok, n, []) | e :: r' => lexQ (tok ++ [e]) (n + nl e) r') else lexQ (tok ++ [c]) (n + nl c) r
noncomputable def lexW (tok : List Nat) (n : Int) : List Nat → List Nat × Int × List Nat
  | [] => (tok, n, [])
  | c :: r => if c ∈ blk then (tok, n + nl c, r) else if c = 92 then (match r with | [] => (tok, n, []) | e :: r' => lexW (tok ++ [e]) (n + nl e) r') else lexW (tok ++ [c]) (n + nl c) r
noncomputable def lexT (n : Int) : List Nat → List Nat × Int × List Nat
  | [] => ([], n, [])
  | c :: r => if c ∈ blk then lexT (n + nl c) r else if c = 34 then lexQ [] n r else if c = 92 then (match r with | [] => ([], n, []) | e :: r' => lexW [e] (n + nl e) r') else lexW [c] (n + nl c) r
theorem up_nil (n : Int) : up n [] = n := by simp [up]
theorem up_cons (n : Int) (c : Nat) (r : List Nat) : up n (c :: r) = n + nl c := by
  unfold up nl
  by_cases h : c = 10 <;> simp [h]
variable {T : TI} {A : Around} {Cl N : Addr} {mN : Str → Option Value}
noncomputable abbrev HL (Cl c' : Addr) (m : MA) (tb : Addr) (pos : Pos) (fit mm fa : Addr) (dead : Bool) (n : Int) (rest : List Nat) : Cs :=
  (fit, .cit mm fa m.x dead) :: (rd Cl c' m n rest ++ [(tb, .tab1 c' pos rdQ)] ++ [(m.pb, .list [])])
theorem nt_read (tc : Tc T Cl N mN) {k : Nat} {c' tb fit mm fa : Addr} {pos : Pos} {m : MA} {n : Int} {rest : List Nat} {o : Obj} {pm cd : Value} {env : Env} {ℓ : Lo} {target : Expr} {K : Option V → Cs → Prop}
    (d : DefAt T fa (fdOf (sn "_netrclex._read_char") pm cd (mth 1)) (fdB (mth 1))) (hf : T.h₁.get? fa = some o) (hfd : o.data = .func (fdOf (sn "_netrclex._read_char") pm cd (mth 1))) (rm : Rm A (k + 6)) (hl : rest.length ≤ 1000000)
    (h0 : rest = [] → K .none (HL Cl c' m tb pos fit mm fa true n [])) (h1 : ∀ c r, rest = c :: r → K (some (.str (S [c]))) (HL Cl c' m tb pos fit mm fa false (n + nl c) r))
    (ht : ∀ y, letOwnedTupleGo target (.ref fit) y = pure () := by intro _; rfl) :
    Nt T A (lc env ℓ :: HL Cl c' m tb pos fit mm fa false n rest) target (.ref fit) (inH env ℓ K) := by
  refine Nt_cit (n := k + 5) (i := 1) rm rfl hf d.ne hfd ?_ ht
  refine CallC.framed (C := rd Cl c' m n rest ++ [(tb, .tab1 c' pos rdQ)]) (Fr := [lc env ℓ, (fit, .cit mm fa m.x false)] ++ [(m.pb, .list [])]) (readc_call tc (k := k + 1) d rm.in1 hl) (show (([lc env ℓ, (fit, .cit mm fa m.x false)] : Cs) ++ ((rd Cl c' m n rest ++ ([(tb, .tab1 c' pos rdQ)] : Cs)) ++ ([(m.pb, .list [])] : Cs))).Perm _ from List.perm_append_comm_assoc _ _ _) ?_
  rintro _ _ ⟨rfl, rfl⟩
  refine ⟨lc env ℓ :: HL Cl c' m tb pos fit mm fa false (up n rest) (rest.drop 1), (show ((rd Cl c' m (up n rest) (rest.drop 1) ++ ([(tb, .tab1 c' pos rdQ)] : Cs)) ++ (([lc env ℓ, (fit, .cit mm fa m.x false)] : Cs) ++ ([(m.pb, .list [])] : Cs))).Perm (([lc env ℓ, (fit, .cit mm fa m.x false)] : Cs) ++ _) from List.perm_append_comm_assoc _ _ _), rfl, _, rfl, ?_⟩
  cases rest with
  | nil =>
    rw [if_pos (by rfl)]
    refine ⟨_, rfl, ?_⟩
    have := h0 rfl
    rw [up_nil]
    exact this
  | cons c r =>
    rw [if_neg (by
      intro e
      have := congrArg (fun z : Str => z.cps.toList) e
      simp [S, Str.empty] at this)]
    refine ⟨_, rfl, ?_⟩
    rw [up_cons]
    exact h1 c r rfl
theorem lk_no {x y : Str} {v : V} {ℓ : Lo} (hne : (x == y) = false) (h : List.lookup x ℓ = none) : List.lookup x ((y, v) :: ℓ) = none := by rw [List.lookup_cons, hne]; exact h
theorem lexA_no {n : Int} {t : V} {pb : Addr} : List.lookup (sn "_read_char") (lexA n t pb) = none :=
  lk_no (by decide +kernel) (lk_no (by decide +kernel) (lk_no (by decide +kernel) (lk_no (by decide +kernel) rfl)))
theorem lexA_no2 {n : Int} {t : V} {pb : Addr} : List.lookup (sn "get_token") (lexA n t pb) = none :=
  lk_no (by decide +kernel) (lk_no (by decide +kernel) (lk_no (by decide +kernel) (lk_no (by decide +kernel) rfl)))
/-- self._read_char() -/
theorem ev_read (tc : Tc T Cl N mN) {k : Nat} {c' tb fit mm fa : Addr} {pos p1 p2 p3 : Pos} {m : MA} {n : Int} {rest : List Nat} {dead : Bool} {o : Obj} {pm cd pmT cdT : Value} {L a : Addr} {ℓ : Lo} {K : V → Cs → Prop} {pl : Sem Bool}
    (hm : mN (sn "_read_char") = some (.ref fa)) (d : DefAt T fa (fdOf (sn "_netrclex._read_char") pm cd (mth 1)) (fdB (mth 1))) (hf : T.h₁.get? fa = some o) (hoc : o.cls = .type "function") (rm : Rm A (k + 4)) (hl : rest.length ≤ 1000000) (hs : ℓ.lookup (sn "self") = some (.ref m.x))
    (h : K (.str (S (rest.take 1))) (HL Cl c' m tb pos fit mm fa dead (up n rest) (rest.drop 1)))
    (he : eval (.Call (.Attribute (.Name (sn "self") p1) (sn "_read_char") p2) [] [] p3) (callEnv (fdOf (sn "_netrclex.get_token") pmT cdT (mth 2)) L a) = (do
      let ov ← eval (.Name (sn "self") p1) (callEnv (fdOf (sn "_netrclex.get_token") pmT cdT (mth 2)) L a)
      standAt p2.atName
      let (f, first) ← holding [ov] (getMethod ov (sn "_read_char") pl)
      callWith p3 f first (backTo p3 (starEach [] (callEnv (fdOf (sn "_netrclex.get_token") pmT cdT (mth 2)) L a))) (backToKw p3 (keywordEach [] (callEnv (fdOf (sn "_netrclex.get_token") pmT cdT (mth 2)) L a)))) := by rfl) : Ev T A (callEnv (fdOf (sn "_netrclex.get_token") pmT cdT (mth 2)) L a) ℓ (HL Cl c' m tb pos fit mm fa dead n rest) (.Call (.Attribute (.Name (sn "self") p1) (sn "_read_char") p2) [] [] p3) K := by
  refine Ev_method (pl := pl) ?_ he
  refine Ev_name hs ?_
  refine ⟨_, GM_inst (i := 2) (y := none) tc.cls rfl hm hf d.ne hoc o_readc lexA_no, .inr (.inr ⟨_, rfl⟩), ?_⟩
  refine Evs_nil ?_
  refine ⟨d.callee _, ?_⟩
  refine Call.framed (C := rd Cl c' m n rest ++ [(tb, .tab1 c' pos rdQ)]) (Fr := [lc _ ℓ, (fit, .cit mm fa m.x dead)] ++ [(m.pb, .list [])]) (readc_call tc (k := k) d rm hl).call (show (([lc _ ℓ, (fit, .cit mm fa m.x dead)] : Cs) ++ ((rd Cl c' m n rest ++ ([(tb, .tab1 c' pos rdQ)] : Cs)) ++ ([(m.pb, .list [])] : Cs))).Perm _ from List.perm_append_comm_assoc _ _ _) ?_
  rintro _ _ ⟨rfl, rfl⟩
  exact ⟨lc _ ℓ :: HL Cl c' m tb pos fit mm fa dead (up n rest) (rest.drop 1), (show ((rd Cl c' m (up n rest) (rest.drop 1) ++ ([(tb, .tab1 c' pos rdQ)] : Cs)) ++ (([lc _ ℓ, (fit, .cit mm fa m.x dead)] : Cs) ++ ([(m.pb, .list [])] : Cs))).Perm (([lc _ ℓ, (fit, .cit mm fa m.x dead)] : Cs) ++ _) from List.perm_append_comm_assoc _ _ _), _, rfl, h⟩
theorem lexT_cons (n : Int) (c : Nat) (r : List Nat) : lexT n (c :: r) = if c ∈ blk then lexT (n + nl c) r else if c = 34 then lexQ [] n r else if c = 92 then (match r with | [] => ([], n, []) | e :: r' => lexW [e] (n + nl e) r') else lexW [c] (n + nl c) r := by
  cases r <;> rfl
theorem lexQ_cons (tok : List Nat) (n : Int) (c : Nat) (r : List Nat) : lexQ tok n (c :: r) = if c = 34 then (tok, n, r) else if c = 92 then (match r with | [] => (tok, n, []) | e :: r' => lexQ (tok ++ [e]) (n + nl e) r') else lexQ (tok ++ [c]) (n + nl c) r := by
  cases r <;> rfl
theorem lexW_cons (tok : List Nat) (n : Int) (c : Nat) (r : List Nat) : lexW tok n (c :: r) = if c ∈ blk then (tok, n + nl c, r) else if c = 92 then (match r with | [] => (tok, n, []) | e :: r' => lexW (tok ++ [e]) (n + nl e) r') else lexW (tok ++ [c]) (n + nl c) r := by
  cases r <;> rfl
theorem lexQ_nil (tok : List Nat) (n : Int) : lexQ tok n [] = (tok, n, []) := by rw [lexQ]
theorem lexW_nil (tok : List Nat) (n : Int) : lexW tok n [] = (tok, n, []) := by rw [lexW]
theorem token_call (tq : Tq T) (tc : Tc T Cl N mN) {k : Nat} {c' tb : Addr} {pos : Pos} {m : MA} {n : Int} {rest : List Nat} {a : Addr} {pm cd : Value} (d : DefAt T a (fdOf (sn "_netrclex.get_token") pm cd (mth 2)) (fdB (mth 2))) (rm : Rm A (k + 8)) (hl : rest.length ≤ 100000) :
    Call T A (rd Cl c' m n rest ++ [(tb, .tab1 c' pos rdQ)] ++ [(m.pb, .list [])]) (.ref a) [.ref m.x] (fun v C' => v = .str (S (lexT n rest).1) ∧ C' = rd Cl c' m (lexT n rest).2.1 (lexT n rest).2.2 ++ [(tb, .tab1 c' pos rdQ)] ++ [(m.pb, .list [])]) := by
  obtain ⟨fa, o, pmR, cdR, hm, hf, hoc, hfd, dR⟩ := tc.readc
  refine Call_def (n := k + 7) (names := [sn "self"]) (ℓ₀ := [(sn "self", .ref m.x)]) d rm (fun xs hxs => ?_) (by simp) rfl (no_cell (by kernel_rfl)) (all_local (by kernel_rfl)) (fun L => ?_)
  · obtain ⟨x, rfl⟩ := len1 hxs
    kernel_rfl
  have rm' := rm.deeper (callEnv (fdOf (sn "_netrclex.get_token") pm cd (mth 2)) L a)
  generalize A.deeper (callEnv (fdOf (sn "_netrclex.get_token") pm cd (mth 2)) L a) = A' at rm' ⊢
  refine Exs_cons ?_
  refine Ex_if ?_
  refine Tr_value ?_
  refine Ev_attr tc.cls tc.pushback o_pushback ?_
  repeat walk_at "ev"
  refine ⟨m.x, 0, m.d, _, .ref m.pb, rfl, rfl, by walk_at "lk", (fun id e => nomatch e), ?_⟩
  refine T_list (i := 6) rfl (by simp) ?_
  refine ⟨_, rfl, ?_⟩
  refine sbF ?_
  repeat walk_at "ev"
  refine Ev_call ?_
  refine Ev_builtin (v := .bi "iter") tq.iter tq.ng tq.nb (fun _ => rfl) ?_
  refine ⟨_, rfl, ?_⟩
  refine Evs_cons ?_
  refine Ev_bound (y := none) tc.cls hm hf dR.ne hoc o_readc (by decide +kernel) ?_
  repeat walk_at "ev"
  refine ⟨m.x, 0, m.d, _, rfl, rfl, lexA_no, fun mm => ?_⟩
  repeat walk_at "ev"
  refine ⟨.inl ⟨_, rfl⟩, Call_iter2 (i := 1) (o := o) (fd := fdOf (sn "_netrclex._read_char") pmR cdR (mth 1)) rfl fun fit => ⟨_, rfl, ?_⟩⟩
  repeat walk_at "ev"
  refine Ex_for ?_
  repeat walk_at "ev"
  refine Itr_cit (j := 1) rfl ⟨_, rfl, ?_⟩
  generalize hRR : lexT n rest = R
  refine Fo_ind (ι := Bool × List Nat × Int × List Nat) (fun i ℓ H => (∃ ℓ', ℓ = (sn "self", V.ref m.x) :: (sn "token", V.str (S i.2.1)) :: (sn "fiter", V.ref fit) :: ℓ' ∧ (ℓ' = [] ∨ ∃ v, ℓ' = [(sn "ch", v)])) ∧
    H = HL Cl c' m tb pos fit mm fa i.1 i.2.2.1 i.2.2.2 ∧ i.2.2.2.length ≤ 100000 ∧ (if i.1 then i.2.2.2 = [] ∧ (i.2.1, i.2.2.1, []) = R else i.2.1 = [] ∧ lexT i.2.2.1 i.2.2.2 = R)) (fun i => if i.1 then 0 else i.2.2.2.length + 1) ?_ (false, [], n, rest) ⟨⟨[], rfl, .inl rfl⟩, rfl, hl, rfl, hRR⟩
  rintro ⟨dead, tok, n, rest⟩ ℓ H ⟨⟨ℓ', rfl, hℓ⟩, rfl, hl, hR⟩ ih
  clear hRR
  dsimp only at hl hR ih ⊢
  refine Fo_step ?_
  cases dead with
  | true =>
    obtain ⟨rfl, rfl⟩ := (show rest = [] ∧ (tok, n, []) = R from hR)
    refine Nt_cit_dead (i := 1) rm' rfl ⟨_, rfl, ?_⟩
    refine Exs_nil ?_
    repeat walk_at "ev"
    exact ⟨_, List.sublist_cons_self _ _, rfl, rfl⟩
  | false =>
    have hR2 := (show tok = [] ∧ lexT n rest = R from hR)
    clear hR
    obtain ⟨rfl, hR⟩ := hR2
    refine nt_read tc (k := k + 1) dR hf hfd rm' (by omega) (fun e => ?_) (fun c r e => ?_)
    · subst e
      rw [lexT] at hR
      subst hR
      refine Exs_nil ?_
      repeat walk_at "ev"
      exact ⟨_, List.sublist_cons_self _ _, rfl, rfl⟩
    · subst e
      have hlr : r.length ≤ 100000 := by simp at hl; omega
      refine Asn_name ?_
      have hu : Upd (sn "ch") (.str (S [c])) ((sn "self", V.ref m.x) :: (sn "token", V.str (S [])) :: (sn "fiter", V.ref fit) :: ℓ') [(sn "self", V.ref m.x), (sn "token", V.str (S [])), (sn "fiter", V.ref fit), (sn "ch", .str (S [c]))] := by
        rcases hℓ with rfl | ⟨v, rfl⟩
        · walk_at "up"
        · walk_at "up"
      refine ⟨_, hu, ?_⟩
      refine Exs_cons ?_
      refine Ex_if ?_
      refine Tr_compare ?_
      repeat walk_at "ev"
      refine Ev_attr tc.cls tc.whitespace o_whitespace ?_
      repeat walk_at "ev"
      refine ⟨m.x, 1, m.d, _, .str (S blk), rfl, rfl, by walk_at "lk", (fun id e => nomatch e), ?_⟩
      refine O_inS ?_
      refine ⟨_, rfl, _, rfl, ?_⟩
      rw [lexT_cons] at hR
      refine sb (fun hb => ?_) (fun hb => ?_)
      · have hb' : c ∈ blk := by simpa using hb
        rw [if_pos hb'] at hR
        refine Exs_cons ?_
        refine Ex_continue ?_
        refine ih (false, [], n + nl c, r) _ _ (by simp) ⟨⟨_, rfl, .inr ⟨_, rfl⟩⟩, rfl, hlr, rfl, hR⟩
      · have hb' : ¬ c ∈ blk := by simpa using hb
        rw [if_neg hb'] at hR
        refine Exs_nil ?_
        refine Exs_cons ?_
        refine Ex_if ?_
        refine Tr_compare ?_
        repeat walk_at "ev"
        refine O_eqS (b := [34]) ?_
        refine ⟨_, rfl, _, rfl, ?_⟩
        refine sb (fun hq => ?_) (fun hq => ?_)
        · have hq' : c = 34 := by simpa using hq
          rw [if_pos hq'] at hR
          subst hq'
          rw [show n = n + nl 34 by simp [nl]] at hR
          refine Exs_cons ?_
          refine Ex_for ?_
          repeat walk_at "ev"
          refine Itr_cit (j := 1) rfl ⟨_, rfl, ?_⟩
          refine Fo_ind (ι := List Nat × Int × List Nat) (fun i ℓ H => (∃ v, ℓ = [(sn "self", V.ref m.x), (sn "token", V.str (S i.1)), (sn "fiter", V.ref fit), (sn "ch", v)]) ∧
            H = HL Cl c' m tb pos fit mm fa false i.2.1 i.2.2 ∧ i.2.2.length ≤ r.length ∧ i.1.length + i.2.2.length ≤ 200000 ∧ lexQ i.1 i.2.1 i.2.2 = R) (fun i => i.2.2.length) ?_ ([], n + nl 34, r) ⟨⟨_, rfl⟩, rfl, Nat.le_refl _, by simp; omega, hR⟩
          rintro ⟨tk, n₂, r₂⟩ ℓ H ⟨⟨v, rfl⟩, rfl, hl₂, hl₃, hR₂⟩ ih₂
          dsimp only at hl₂ hl₃ hR₂ ih₂ ⊢
          refine Fo_step ?_
          refine nt_read tc (k := k + 1) dR hf hfd rm' (by omega) (fun e => ?_) (fun c₂ r₃ e => ?_)
          · subst e
            rw [lexQ_nil] at hR₂
            refine Exs_nil ?_
            refine Exs_nil ?_
            refine Exs_nil ?_
            refine ih (true, tk, n₂, []) _ _ (by simp) ⟨⟨_, rfl, .inr ⟨_, rfl⟩⟩, rfl, by simp, rfl, hR₂⟩
          · subst e
            have hl₄ : r₃.length + 1 ≤ r.length := by simpa using hl₂
            have hl₅ : tk.length + (r₃.length + 1) ≤ 200000 := by simpa using hl₃
            refine Asn_name ?_
            apply exu
            case u => walk_at "up"
            refine Exs_cons ?_
            refine Ex_if ?_
            refine Tr_compare ?_
            repeat walk_at "ev"
            refine O_eqS (b := [34]) ?_
            refine ⟨_, rfl, _, rfl, ?_⟩
            rw [lexQ_cons] at hR₂
            refine sb (fun hc => ?_) (fun hc => ?_)
            · have hc' : c₂ = 34 := by simpa using hc
              rw [if_pos hc'] at hR₂
              subst hR₂
              refine Exs_cons ?_
              refine Ex_return ?_
              repeat walk_at "ev"
              subst hc'
              exact ⟨_, List.sublist_cons_self _ _, rfl, by simp [nl]⟩
            · have hc' : ¬ c₂ = 34 := by simpa using hc
              rw [if_neg hc'] at hR₂
              refine Exs_cons ?_
              refine Ex_if ?_
              refine Tr_compare ?_
              repeat walk_at "ev"
              refine O_eqS (b := [92]) ?_
              refine ⟨_, rfl, _, rfl, ?_⟩
              refine sb (fun he => ?_) (fun he => ?_)
              · have he' : c₂ = 92 := by simpa using he
                rw [if_pos he'] at hR₂
                subst he'
                refine Exs_cons ?_
                refine Ex_assign ?_
                refine ev_read tc (k := k + 3) hm dR hf hoc rm' (by omega) (by walk_at "lk") ?_
                repeat walk_at "ev"
                refine Ex_aug (v := .str (S tk)) (by walk_at "lk") ?_
                repeat walk_at "ev"
                refine O_iadds (by have : (r₃.take 1).length ≤ 1 := (by simp; omega); omega) ?_
                repeat walk_at "ev"
                cases r₃ with
                | nil =>
                  refine ih₂ (tk ++ [], up (n₂ + nl 92) [], []) _ _ (by simp) ⟨⟨_, rfl⟩, rfl, by simp, by simp; omega, ?_⟩
                  dsimp only
                  rw [lexQ_nil, up_nil, List.append_nil]
                  simpa [nl] using hR₂
                | cons e₁ r₄ =>
                  refine ih₂ (tk ++ [e₁], up (n₂ + nl 92) (e₁ :: r₄), r₄) _ _ (by simp; omega) ⟨⟨_, rfl⟩, rfl, by simp at hl₄ ⊢; omega, by simp at hl₅ ⊢; omega, ?_⟩
                  dsimp only
                  rw [up_cons]
                  simpa [nl] using hR₂
              · have he' : ¬ c₂ = 92 := by simpa using he
                rw [if_neg he'] at hR₂
                refine Exs_nil ?_
                refine Exs_nil ?_
                refine Exs_cons ?_
                refine Ex_aug (v := .str (S tk)) (by walk_at "lk") ?_
                repeat walk_at "ev"
                refine O_iadds (by simp; omega) ?_
                repeat walk_at "ev"
                exact ih₂ (tk ++ [c₂], _, r₃) _ _ (by simp) ⟨⟨_, rfl⟩, rfl, by show r₃.length ≤ r.length; omega, by simp; omega, hR₂⟩
        · have hq' : ¬ c = 34 := by simpa using hq
          rw [if_neg hq'] at hR
          refine Exs_cons ?_
          refine Ex_if ?_
          refine Tr_compare ?_
          repeat walk_at "ev"
          refine O_eqS (b := [92]) ?_
          refine ⟨_, rfl, _, rfl, ?_⟩
          refine sb (fun hw => ?_) (fun hw => ?_)
          · have hw' : c = 92 := by simpa using hw
            rw [if_pos hw'] at hR
            subst hw'
            refine Exs_cons ?_
            refine Ex_assign ?_
            refine ev_read tc (k := k + 3) hm dR hf hoc rm' (by omega) (by walk_at "lk") ?_
            repeat walk_at "ev"
            refine Ex_aug (v := .str (S [])) (by walk_at "lk") ?_
            repeat walk_at "ev"
            refine O_iadds (by have : (r.take 1).length ≤ 1 := (by simp; omega); simp; omega) ?_
            repeat walk_at "ev"
            refine Ex_for ?_
            repeat walk_at "ev"
            refine Itr_cit (j := 1) rfl ⟨_, rfl, ?_⟩
            replace hR : lexW ([] ++ r.take 1) (up (n + nl 92) r) (r.drop 1) = R := by
              cases r with
              | nil => rw [up_nil]; simpa [lexW_nil, nl] using hR
              | cons e₀ r₀ => rw [up_cons]; simpa [nl] using hR
            refine Fo_ind (ι := List Nat × Int × List Nat) (fun i ℓ H => (∃ v, ℓ = [(sn "self", V.ref m.x), (sn "token", V.str (S i.1)), (sn "fiter", V.ref fit), (sn "ch", v)]) ∧
              H = HL Cl c' m tb pos fit mm fa false i.2.1 i.2.2 ∧ i.2.2.length ≤ r.length ∧ i.1.length + i.2.2.length ≤ 200000 ∧ lexW i.1 i.2.1 i.2.2 = R) (fun i => i.2.2.length) ?_ ([] ++ r.take 1, up (n + nl 92) r, r.drop 1) ⟨⟨_, rfl⟩, rfl, by simp, by simp; omega, hR⟩
            rintro ⟨tk, n₂, r₂⟩ ℓ H ⟨⟨v, rfl⟩, rfl, hl₂, hl₃, hR₂⟩ ih₂
            dsimp only at hl₂ hl₃ hR₂ ih₂ ⊢
            refine Fo_step ?_
            refine nt_read tc (k := k + 1) dR hf hfd rm' (by omega) (fun e => ?_) (fun c₂ r₃ e => ?_)
            · subst e
              rw [lexW_nil] at hR₂
              refine Exs_nil ?_
              refine Exs_nil ?_
              refine Exs_nil ?_
              refine ih (true, tk, n₂, []) _ _ (by simp) ⟨⟨_, rfl, .inr ⟨_, rfl⟩⟩, rfl, by simp, rfl, hR₂⟩
            · subst e
              have hl₄ : r₃.length + 1 ≤ r.length := by simpa using hl₂
              have hl₅ : tk.length + (r₃.length + 1) ≤ 200000 := by simpa using hl₃
              refine Asn_name ?_
              apply exu
              case u => walk_at "up"
              refine Exs_cons ?_
              refine Ex_if ?_
              refine Tr_compare ?_
              repeat walk_at "ev"
              refine Ev_attr tc.cls tc.whitespace o_whitespace ?_
              repeat walk_at "ev"
              refine ⟨m.x, 1, m.d, _, .str (S blk), rfl, rfl, by walk_at "lk", (fun id e => nomatch e), ?_⟩
              refine O_inS ?_
              refine ⟨_, rfl, _, rfl, ?_⟩
              rw [lexW_cons] at hR₂
              refine sb (fun hc => ?_) (fun hc => ?_)
              · have hc' : c₂ ∈ blk := by simpa using hc
                rw [if_pos hc'] at hR₂
                subst hR₂
                refine Exs_cons ?_
                refine Ex_return ?_
                repeat walk_at "ev"
                exact ⟨_, List.sublist_cons_self _ _, rfl, rfl⟩
              · have hc' : ¬ c₂ ∈ blk := by simpa using hc
                rw [if_neg hc'] at hR₂
                refine Exs_cons ?_
                refine Ex_if ?_
                refine Tr_compare ?_
                repeat walk_at "ev"
                refine O_eqS (b := [92]) ?_
                refine ⟨_, rfl, _, rfl, ?_⟩
                refine sb (fun he => ?_) (fun he => ?_)
                · have he' : c₂ = 92 := by simpa using he
                  rw [if_pos he'] at hR₂
                  subst he'
                  refine Exs_cons ?_
                  refine Ex_assign ?_
                  refine ev_read tc (k := k + 3) hm dR hf hoc rm' (by omega) (by walk_at "lk") ?_
                  repeat walk_at "ev"
                  refine Ex_aug (v := .str (S tk)) (by walk_at "lk") ?_
                  repeat walk_at "ev"
                  refine O_iadds (by have : (r₃.take 1).length ≤ 1 := (by simp; omega); omega) ?_
                  repeat walk_at "ev"
                  cases r₃ with
                  | nil =>
                    refine ih₂ (tk ++ [], up (n₂ + nl 92) [], []) _ _ (by simp) ⟨⟨_, rfl⟩, rfl, by simp, by simp; omega, ?_⟩
                    dsimp only
                    rw [lexW_nil, up_nil, List.append_nil]
                    simpa [nl] using hR₂
                  | cons e₁ r₄ =>
                    refine ih₂ (tk ++ [e₁], up (n₂ + nl 92) (e₁ :: r₄), r₄) _ _ (by simp; omega) ⟨⟨_, rfl⟩, rfl, by simp at hl₄ ⊢; omega, by simp at hl₅ ⊢; omega, ?_⟩
                    dsimp only
                    rw [up_cons]
                    simpa [nl] using hR₂
                · have he' : ¬ c₂ = 92 := by simpa using he
                  rw [if_neg he'] at hR₂
                  refine Exs_nil ?_
                  refine Exs_nil ?_
                  refine Exs_cons ?_
                  refine Ex_aug (v := .str (S tk)) (by walk_at "lk") ?_
                  repeat walk_at "ev"
                  refine O_iadds (by simp; omega) ?_
                  repeat walk_at "ev"
                  exact ih₂ (tk ++ [c₂], _, r₃) _ _ (by simp) ⟨⟨_, rfl⟩, rfl, by show r₃.length ≤ r.length; omega, by simp; omega, hR₂⟩
          · have hw' : ¬ c = 92 := by simpa using hw
            rw [if_neg hw'] at hR
            refine Exs_nil ?_
            refine Exs_cons ?_
            refine Ex_aug (v := .str (S [])) (by walk_at "lk") ?_
            repeat walk_at "ev"
            refine O_iadds (by simp) ?_
            repeat walk_at "ev"
            refine Ex_for ?_
            repeat walk_at "ev"
            refine Itr_cit (j := 1) rfl ⟨_, rfl, ?_⟩
            replace hR : lexW ([] ++ [c]) (n + nl c) r = R := hR
            refine Fo_ind (ι := List Nat × Int × List Nat) (fun i ℓ H => (∃ v, ℓ = [(sn "self", V.ref m.x), (sn "token", V.str (S i.1)), (sn "fiter", V.ref fit), (sn "ch", v)]) ∧
              H = HL Cl c' m tb pos fit mm fa false i.2.1 i.2.2 ∧ i.2.2.length ≤ r.length ∧ i.1.length + i.2.2.length ≤ 200000 ∧ lexW i.1 i.2.1 i.2.2 = R) (fun i => i.2.2.length) ?_ ([] ++ [c], n + nl c, r) ⟨⟨_, rfl⟩, rfl, Nat.le_refl _, by simp; omega, hR⟩
            rintro ⟨tk, n₂, r₂⟩ ℓ H ⟨⟨v, rfl⟩, rfl, hl₂, hl₃, hR₂⟩ ih₂
            dsimp only at hl₂ hl₃ hR₂ ih₂ ⊢
            refine Fo_step ?_
            refine nt_read tc (k := k + 1) dR hf hfd rm' (by omega) (fun e => ?_) (fun c₂ r₃ e => ?_)
            · subst e
              rw [lexW_nil] at hR₂
              refine Exs_nil ?_
              refine Exs_nil ?_
              refine Exs_nil ?_
              refine ih (true, tk, n₂, []) _ _ (by simp) ⟨⟨_, rfl, .inr ⟨_, rfl⟩⟩, rfl, by simp, rfl, hR₂⟩
            · subst e
              have hl₄ : r₃.length + 1 ≤ r.length := by simpa using hl₂
              have hl₅ : tk.length + (r₃.length + 1) ≤ 200000 := by simpa using hl₃
              refine Asn_name ?_
              apply exu
              case u => walk_at "up"
              refine Exs_cons ?_
              refine Ex_if ?_
              refine Tr_compare ?_
              repeat walk_at "ev"
              refine Ev_attr tc.cls tc.whitespace o_whitespace ?_
              repeat walk_at "ev"
              refine ⟨m.x, 1, m.d, _, .str (S blk), rfl, rfl, by walk_at "lk", (fun id e => nomatch e), ?_⟩
              refine O_inS ?_
              refine ⟨_, rfl, _, rfl, ?_⟩
              rw [lexW_cons] at hR₂
              refine sb (fun hc => ?_) (fun hc => ?_)
              · have hc' : c₂ ∈ blk := by simpa using hc
                rw [if_pos hc'] at hR₂
                subst hR₂
                refine Exs_cons ?_
                refine Ex_return ?_
                repeat walk_at "ev"
                exact ⟨_, List.sublist_cons_self _ _, rfl, rfl⟩
              · have hc' : ¬ c₂ ∈ blk := by simpa using hc
                rw [if_neg hc'] at hR₂
                refine Exs_cons ?_
                refine Ex_if ?_
                refine Tr_compare ?_
                repeat walk_at "ev"
                refine O_eqS (b := [92]) ?_
                refine ⟨_, rfl, _, rfl, ?_⟩
                refine sb (fun he => ?_) (fun he => ?_)
                · have he' : c₂ = 92 := by simpa using he
                  rw [if_pos he'] at hR₂
                  subst he'
                  refine Exs_cons ?_
                  refine Ex_assign ?_
                  refine ev_read tc (k := k + 3) hm dR hf hoc rm' (by omega) (by walk_at "lk") ?_
                  repeat walk_at "ev"
                  refine Ex_aug (v := .str (S tk)) (by walk_at "lk") ?_
                  repeat walk_at "ev"
                  refine O_iadds (by have : (r₃.take 1).length ≤ 1 := (by simp; omega); omega) ?_
                  repeat walk_at "ev"
                  cases r₃ with
                  | nil =>
                    refine ih₂ (tk ++ [], up (n₂ + nl 92) [], []) _ _ (by simp) ⟨⟨_, rfl⟩, rfl, by simp, by simp; omega, ?_⟩
                    dsimp only
                    rw [lexW_nil, up_nil, List.append_nil]
                    simpa [nl] using hR₂
                  | cons e₁ r₄ =>
                    refine ih₂ (tk ++ [e₁], up (n₂ + nl 92) (e₁ :: r₄), r₄) _ _ (by simp; omega) ⟨⟨_, rfl⟩, rfl, by simp at hl₄ ⊢; omega, by simp at hl₅ ⊢; omega, ?_⟩
                    dsimp only
                    rw [up_cons]
                    simpa [nl] using hR₂
                · have he' : ¬ c₂ = 92 := by simpa using he
                  rw [if_neg he'] at hR₂
                  refine Exs_nil ?_
                  refine Exs_nil ?_
                  refine Exs_cons ?_
                  refine Ex_aug (v := .str (S tk)) (by walk_at "lk") ?_
                  repeat walk_at "ev"
                  refine O_iadds (by simp; omega) ?_
                  repeat walk_at "ev"
                  exact ih₂ (tk ++ [c₂], _, r₃) _ _ (by simp) ⟨⟨_, rfl⟩, rfl, by show r₃.length ≤ r.length; omega, by simp; omega, hR₂⟩
end
section
open PySem PySem.Spec PySem.Calls PyProof.Rows PySem.P
variable {T : TI} {A : Around} {Cl N : Addr} {mN : Str → Option Value}
theorem ws_eq : Str.ofString "\n\t\r " = S blk := by first | rfl | decide +kernel
theorem init_call (tc : Tc T Cl N mN) {k : Nat} {x d : Addr} {v : V} {a : Addr} {pm cd : Value} {K} (dI : DefAt T a (fdOf (sn "_netrclex.__init__") pm cd (mth 0)) (fdB (mth 0))) (rm : Rm A (k + 1))
    (h : ∀ pb, K .none [(pb, .list []), (x, .inst Cl d (lexA 1 v pb))]) : Call T A [(x, .inst Cl d [])] (.ref a) [.ref x, v] K := by
  refine Call_def (n := k) (names := [sn "self", sn "fp"]) (ℓ₀ := [(sn "self", .ref x), (sn "fp", v)]) dI rm (fun xs hxs => ?_) (names2 (by decide +kernel)) rfl (no_cell (by kernel_rfl)) (all_local (by kernel_rfl)) (fun L => ?_)
  · obtain ⟨x, y, rfl⟩ := len2 hxs
    kernel_rfl
  have rm' := rm.deeper (callEnv (fdOf (sn "_netrclex.__init__") pm cd (mth 0)) L a)
  generalize A.deeper (callEnv (fdOf (sn "_netrclex.__init__") pm cd (mth 0)) L a) = A' at rm' ⊢
  refine Exs_cons ?_
  refine Ex_setattr tc.cls tc.lineno o_lineno tc.has ?_
  repeat walk_at "ev"
  refine ⟨x, 0, d, [], [(sn "lineno", .int 1)], rfl, rfl, by simp, by walk_at "up", ?_⟩
  refine Exs_cons ?_
  refine Ex_setattr tc.cls tc.instream o_instream tc.has ?_
  repeat walk_at "ev"
  refine ⟨x, 0, d, _, [(sn "lineno", .int 1), (sn "instream", v)], rfl, rfl, by simp, by walk_at "up", ?_⟩
  refine Exs_cons ?_
  refine Ex_setattr tc.cls tc.whitespace o_whitespace tc.has ?_
  refine Ev_str ?_
  rw [ws_eq]
  repeat walk_at "ev"
  refine ⟨x, 0, d, _, [(sn "lineno", .int 1), (sn "instream", v), (sn "whitespace", .str (S blk))], rfl, rfl, by simp, by walk_at "up", ?_⟩
  refine Exs_cons ?_
  refine Ex_setattr tc.cls tc.pushback o_pushback tc.has ?_
  refine Ev_list ?_
  refine Evs_nil ?_
  refine ⟨by simp, fun pb => ?_⟩
  repeat walk_at "ev"
  refine ⟨x, 1, d, _, lexA 1 v pb, rfl, rfl, by simp, by walk_at "up", ?_⟩
  refine Exs_nil ?_
  refine ⟨[(pb, .list []), (x, .inst Cl d (lexA 1 v pb))], List.Sublist.refl _, ?_⟩
  exact h pb
end
section
open PySem PySem.Spec PySem.Calls PyProof.Rows PySem.P
variable {T : TI} {A : Around} {Cl N : Addr} {mN : Str → Option Value}
/-- _netrclex(v) -/
theorem class_call (tc : Tc T Cl N mN) {k : Nat} {C : Cs} {v : V} {K} (rm : Rm A (k + 2)) (h : ∀ x d pb, K (.ref x) ((pb, .list []) :: (x, .inst Cl d (lexA 1 v pb)) :: C)) : Call T A C (.ref Cl) [v] K := by
  obtain ⟨fI, oI, pmI, cdI, hi, ho, hoc, hfd, dI⟩ := tc.init
  refine Call_class (n := k + 1) tc.cls hi ho dI.ne hoc rm fun x d A' rm' => ?_
  refine Call.framed (C := [(x, .inst Cl d [])]) (Fr := C) (init_call tc (k := k) (K := fun u C' => ∃ pb, u = .none ∧ C' = [(pb, .list []), (x, .inst Cl d (lexA 1 v pb))]) dI rm' fun pb => ⟨pb, rfl, rfl⟩) (List.Perm.refl _) ?_
  rintro _ _ ⟨pb, rfl, rfl⟩
  exact ⟨_, List.Perm.refl _, rfl, h x d pb⟩
theorem Call.swapL {env : Env} {ℓ : Lo} {C : Cs} {f : Value} {vs : List V} {K} (h : Call T A C f vs (fun v C' => ∃ xs H', C' = xs ++ lc env ℓ :: H' ∧ K v (xs ++ H'))) : Call T A C f vs (inH env ℓ K) := ⟨fun s xs k r => wpAny_mono (h.run s xs k r) (fun x s' p => by
  obtain ⟨v, _, ⟨ys, H', rfl, hK⟩, r, k, g⟩ := p
  have q : (ys ++ lc env ℓ :: H').Perm (lc env ℓ :: (ys ++ H')) := List.perm_middle
  exact PostG.inI (v := v) hK r (k.perm q) (g.permR q)) fun _ _ e => e⟩
structure Tn (T : TI) (mg : Str → Option Value) (Cl : Addr) : Prop where
  nest : NestAt T mg
  cls : GlobIs T (sn "_netrclex") (.ref Cl)
  tape : ∃ a pm, GlobIs T (sn "_law_tape") (.ref a) ∧ DefAt T a (fdOf (sn "_law_tape") pm (.ref T.tc) (stAt Pr 9)) (fdB (stAt Pr 9))
noncomputable abbrev tpos : Pos := stPos rdSt
theorem tape_call (tq : Tq T) (tc : Tc T Cl N mN) {mg : Str → Option Value} (tn : Tn T mg Cl) {k : Nat} {text : List Nat} {tab : Cell} {a : Addr} {pm : Value} {K} (d : DefAt T a (fdOf (sn "_law_tape") pm (.ref T.tc) (stAt Pr 9)) (fdB (stAt Pr 9))) (rm : Rm A (k + 4)) (hl : text.length ≤ 100000)
    (htab : tab = .tab ∨ ∃ c', tab = .tab1 c' tpos rdQ)
    (h : ∀ t d2 pb2 f c left doc ctv c', (∀ c0, tab = .tab1 c0 tpos rdQ → c' = c0) → K (.ref t) [(t, .inst Cl d2 (tapA pb2 f)), (f, .clo (rdFd c doc ((mg "__name__").getD .none) c' ctv) c (.ref left)), (left, .list (chs text)), (T.tb, .tab1 c' tpos rdQ)]) :
    Call T A [(T.tb, tab)] (.ref a) [.str (S text)] K := by
  refine (CallC_cell1 (n := k + 3) (p := sn "text") (y := sn "left") d rm (fun x => by kernel_rfl) rfl (by kernel_rfl) (fun k => by rfl) (by kernel_rfl) fun L => ?_).call
  have rm' := rm.deeper (callEnvC (fdOf (sn "_law_tape") pm (.ref T.tc) (stAt Pr 9)) L a)
  generalize A.deeper (callEnvC (fdOf (sn "_law_tape") pm (.ref T.tc) (stAt Pr 9)) L a) = A' at rm' ⊢
  refine Exs_cons ?_
  refine Ex_assign ?_
  refine Ev_call ?_
  refine Ev_glob tn.cls tq.ng ?_
  refine ⟨_, rfl, ?_⟩
  repeat walk_at "ev"
  refine ⟨tc.cls.callee _, ?_⟩
  refine Call.swapL (class_call tc (k := k + 1) rm' fun t d2 pb2 => ⟨[_, _], _, rfl, ?_⟩)
  apply exu
  case u => walk_at "up"
  refine Exs_cons ?_
  refine Ex_assignC (c := L + 1) ?_
  refine Ev_call ?_
  refine Ev_builtin (v := .ty "list") tq.list tq.ng tq.nb (fun _ => rfl) ?_
  refine ⟨_, rfl, ?_⟩
  repeat walk_at "ev"
  refine ⟨.inr (.inl ⟨_, rfl⟩), Call.swap (Call_listS rm' (by omega) fun left => ⟨_, _, rfl, ?_⟩)⟩
  repeat walk_at "ev"
  have hq : qualnameIn (callEnvC (fdOf (sn "_law_tape") pm (Value.ref T.tc) (stAt Pr 9)) L a) (Str.ofString "_law_read") (Str.ofString "_law_read") = rdQ := by kernel_rfl
  refine Ex_def tn.nest (j := 3) (clos := [(sn "left", L + 1)]) ?_ rfl rfl rfl ?_
  · rw [hq]
    rcases htab with rfl | ⟨c', rfl⟩
    · exact .inl rfl
    · exact .inr ⟨c', rfl⟩
  rw [hq]
  intro f c' doc ctv hc
  repeat walk_at "ev"
  refine Ex_setattr tc.cls tc.read o_read tc.has ?_
  repeat walk_at "ev"
  refine ⟨t, 3, d2, _, tapA pb2 f, rfl, rfl, by simp, by walk_at "up", ?_⟩
  repeat walk_at "ev"
  refine ⟨[(t, .inst Cl d2 (tapA pb2 f)), (f, .clo (rdFd (L + 1) doc ((mg "__name__").getD .none) c' ctv) (L + 1) (.ref left)), (left, .list (chs text)), (T.tb, .tab1 c' tpos rdQ)], ?_, ?_⟩
  · refine Turn.perm (H₁ := [(f, .clo (rdFd (L + 1) doc ((mg "__name__").getD .none) c' ctv) (L + 1) (.ref left)), (left, .list (chs text)), (t, .inst Cl d2 (tapA pb2 f)), (T.tb, .tab1 c' tpos rdQ)]) ?_ (List.perm_middle (l₁ := [_, _]) (l₂ := [_]))
    refine Turn.clo (i := 0) (x := sn "left") (v := .ref left) rfl (lk_miss (by decide +kernel) (lk_miss (by decide +kernel) lk_hit)) ?_
    exact (((List.Sublist.refl _).cons _).cons_cons _).cons_cons _
  · exact h t d2 pb2 f (L + 1) left doc ctv c' (fun c0 e => hc c0 (by rw [e]; rfl))
end
section
open PySem PySem.Spec PySem.Calls PyProof.Rows PySem.P PySem.W
theorem good_end {c : ClaimW} {cl : Str → Option Addr} {mean : ExcName → Option Value} {args : List WData} {s₁ s' : Shared} {T : TI} {h0 : Heap} {C : Cs} {x : Value} {pos : Pos} {q : Str} (hT : T.h₁ = s₁.heap) (ho : T.os = s₁.os) (hr : ∀ cls, c.raises args cls = false) (hp : c.post args (.bool true) args = true)
    (p : PostG T C h0 Rel (fun v C' => v = .bool true ∧ ∃ c', C' = [(T.tb, .tab1 c' pos q)]) x s') : GoodWG c cl mean args s₁ (.ok (.ret x)) s' := by
  obtain ⟨v, _, ⟨rfl, c', rfl⟩, r, k, g⟩ := p
  cases r
  obtain ⟨ht, htb, _⟩ := k.cells _ (.head _)
  refine ⟨.inl ⟨_, _, [], rfl, hr, ReadsW.bool true, hp, fun _ => ⟨List.nodup_nil, fun _ hm => (nomatch hm)⟩⟩, ⟨fun b o e => ?_, fun b o e => ?_⟩, k.os.trans ho, .of_eq k.gens⟩
  · rw [← hT] at e
    by_cases hb : b = T.tb
    · subst hb
      have e2 := ht.2
      rw [e] at e2
      cases e2
      refine .inr (.inl ⟨hT ▸ ht.isCodeTable, rfl, _, #[rawInt pos.line, rawInt pos.col, Value.ref c'], rfl, ?_⟩)
      rw [htb]
      simp
      rfl
    · exact .inl (k.top b o e hb)
  · rw [← hT] at e
    by_cases hb : b = T.tb
    · subst hb; exact ⟨_, htb⟩
    · exact ⟨o, k.top b o e hb⟩
theorem defAt_of {T : TI} {K : Frag} {a c : Addr} {q : Str} {pm : Value} {st : Stmt} {o oc : Obj} {vs : Array Value} {t : Tok} (X : K.In T.h₁) (lim : Lim T) (h1 : K.lookup a = some o) (h2 : o.data = .func (fdOf q pm (.ref c) st)) (ne : a ≠ T.tb) (h3 : K.lookup c = some oc) (h4 : oc.data = .fields vs) (nc : c ≠ T.tb)
    (h5 : vs[1]? = some (.str (fdOf q pm (.ref c) st).qualname t)) (hc : (fdOf q pm (.ref c) st).code = .ref c) (hb : (fdOf q pm (.ref c) st).body = .stmts (fdB st)) : DefAt T a (fdOf q pm (.ref c) st) (fdB st) :=
  ⟨⟨o, X _ _ h1, h2⟩, ne, lim, ⟨c, oc, vs, t, hc, nc, X _ _ h3, h4, h5⟩, hb⟩
theorem topInts_of {T : TI} {a : Addr} {l : List Int} {items : List Value} (hne : a ≠ T.tb) (hl : T.h₁.IsList a items.toArray) (hi : IntsAre items l) : TopInts T a l := by
  refine ⟨hne, _, hl, ?_⟩
  rw [List.toList_toArray]
  clear hl
  induction hi with
  | nil => rfl
  | cons _ _ _ ih => exact ⟨_, _, rfl, ⟨_, rfl⟩, ih⟩
theorem mg_is {K : Frag} {T : TI} {N : Addr} {mN : Str → Option Value} {n : Str} {v : Value} (X : K.In T.h₁) (G : T.h₁.Ns N mN) (e : nsIn K N n = some (some v)) : mN n = some v := by
  obtain ⟨o, es, ep, ho, hd, _, hf⟩ := G
  unfold nsIn at e
  split at e
  · rename_i c d es' n' sl q
    have := X _ _ q
    rw [ho] at this
    cases this
    cases hd
    split at e
    · rename_i en he
      cases e
      rw [← hf]
      unfold nsFind findBy
      rw [← Array.find?_toList, he]
      rfl
    · split at e <;> cases e
  · cases e
end
section
/-! trees over a row of weights, and Huffman's sums: plain mathematics -/
inductive Sh where
  | leaf
  | node (l r : Sh)
noncomputable def dep : Sh → Nat → List Nat
  | .leaf, d => [d]
  | .node l r, d => dep l (d + 1) ++ dep r (d + 1)
/-- depths that a tree's leaves can have -/
inductive KR : List Nat → Prop
  | one : KR [0]
  | exp {d : Nat} {ds : List Nat} (h : KR (d :: ds)) : KR ((d + 1) :: (d + 1) :: ds)
  | perm {a b : List Nat} (h : KR a) (p : a.Perm b) : KR b
theorem KR_dep : ∀ (s : Sh) (d : Nat) (ds : List Nat), KR (d :: ds) → KR (dep s d ++ ds)
  | .leaf, d, ds, h => h
  | .node l r, d, ds, h => by
    have h1 := KR_dep l (d + 1) _ (KR.exp h)
    have h2 : KR ((d + 1) :: (dep l (d + 1) ++ ds)) := h1.perm List.perm_middle
    have h3 := KR_dep r (d + 1) _ h2
    refine h3.perm ?_
    show (dep r (d + 1) ++ (dep l (d + 1) ++ ds)).Perm (dep l (d + 1) ++ dep r (d + 1) ++ ds)
    rw [List.append_assoc]
    exact List.perm_append_comm_assoc _ _ _
theorem KR_sh (s : Sh) : KR (dep s 0) := by
  have := KR_dep s 0 [] .one
  rwa [List.append_nil] at this
/-- the deepest leaf has a brother -/
theorem KR.top {ds : List Nat} (h : KR ds) : ds = [0] ∨ ∃ m rest, ds.Perm ((m + 1) :: (m + 1) :: rest) ∧ (∀ x ∈ rest, x ≤ m + 1) ∧ KR (m :: rest) := by
  induction h with
  | one => exact .inl rfl
  | @perm a b h p ih =>
    rcases ih with rfl | ⟨m, rest, q, le, k⟩
    · exact .inl (List.perm_singleton.mp p.symm)
    · exact .inr ⟨m, rest, p.symm.trans q, le, k⟩
  | @exp d ds h ih =>
    refine .inr ?_
    rcases ih with e | ⟨m, rest, q, le, k⟩
    · injection e with e1 e2
      subst e1 e2
      exact ⟨0, [], .refl _, (fun x hx => (nomatch hx)), .one⟩
    · have hd : d = m + 1 ∨ d ∈ rest := by
        have : d ∈ (m + 1) :: (m + 1) :: rest := q.mem_iff.mp (.head _)
        rcases List.mem_cons.mp this with e | h
        · exact .inl e
        · exact List.mem_cons.mp h
      have hall : ∀ x ∈ ds, x ≤ m + 1 := fun x hx => by
        have : x ∈ (m + 1) :: (m + 1) :: rest := q.mem_iff.mp (.tail _ hx)
        rcases List.mem_cons.mp this with e | h
        · exact Nat.le_of_eq e
        · rcases List.mem_cons.mp h with e | h
          · exact Nat.le_of_eq e
          · exact le x h
      by_cases hm : m ≤ d
      · exact ⟨d, ds, .refl _, fun x hx => Nat.le_trans (hall x hx) (Nat.succ_le_succ hm), h⟩
      · have hdr : d ∈ rest := hd.resolve_left fun e => hm (e ▸ Nat.le_succ _)
        have pr := List.perm_cons_erase hdr
        have q2 : ds.Perm ((m + 1) :: (m + 1) :: rest.erase d) := by
          have q3 : (d :: ds).Perm (d :: (m + 1) :: (m + 1) :: rest.erase d) := by
            refine q.trans ?_
            refine (((pr.cons (m + 1)).cons (m + 1))).trans ?_
            exact ((List.Perm.swap _ _ _).cons _).trans (List.Perm.swap _ _ _)
          exact q3.cons_inv
        refine ⟨m, (d + 1) :: (d + 1) :: rest.erase d, ?_, ?_, ?_⟩
        · refine ((q2.cons _).cons _).trans ?_
          exact List.perm_append_comm (l₁ := [d + 1, d + 1]) (l₂ := [m + 1, m + 1]) |>.append_right (rest.erase d)
        · intro x hx
          rcases List.mem_cons.mp hx with rfl | hx
          · exact Nat.succ_le_succ (Nat.le_of_lt (Nat.lt_of_not_le hm))
          · rcases List.mem_cons.mp hx with rfl | hx
            · exact Nat.succ_le_succ (Nat.le_of_lt (Nat.lt_of_not_le hm))
            · exact le x (List.mem_of_mem_erase hx)
        · have k2 : KR (d :: m :: rest.erase d) := k.perm ((pr.cons m).trans (List.Perm.swap _ _ _))
          exact k2.exp.perm (List.perm_append_comm (l₁ := [d + 1, d + 1]) (l₂ := [m]) |>.append_right (rest.erase d))
/-- a leaf may be split -/
theorem split_at : ∀ (s : Sh) (d : Nat) (A B : List Nat) (m : Nat), dep s d = A ++ m :: B → ∃ s', dep s' d = A ++ (m + 1) :: (m + 1) :: B
  | .leaf, d, A, B, m, h => by
    cases A with
    | nil =>
      injection h with h1 h2
      subst h1 h2
      exact ⟨.node .leaf .leaf, rfl⟩
    | cons a A =>
      injection h with h1 h2
      cases A <;> cases h2
  | .node l r, d, A, B, m, h => by
    have h' : dep l (d + 1) ++ dep r (d + 1) = A ++ m :: B := h
    rcases List.append_eq_append_iff.mp h' with ⟨C, e1, e2⟩ | ⟨C, e1, e2⟩
    · obtain ⟨r', hr⟩ := split_at r (d + 1) C B m e2
      refine ⟨.node l r', ?_⟩
      show dep l (d + 1) ++ dep r' (d + 1) = _
      rw [hr, e1, List.append_assoc]
    · cases C with
      | nil =>
        have e2' : dep r (d + 1) = [] ++ m :: B := by simpa using e2.symm
        obtain ⟨r', hr⟩ := split_at r (d + 1) [] B m e2'
        refine ⟨.node l r', ?_⟩
        show dep l (d + 1) ++ dep r' (d + 1) = _
        rw [hr, e1]; simp
      | cons c C =>
        injection e2 with e3 e4
        subst e3
        obtain ⟨l', hl⟩ := split_at l (d + 1) A C m e1
        refine ⟨.node l' r, ?_⟩
        show dep l' (d + 1) ++ dep r (d + 1) = _
        rw [hl, e4]; simp
theorem sorted_unique {a b : List Nat} (p : a.Perm b) (ha : a.Pairwise (· ≥ ·)) (hb : b.Pairwise (· ≥ ·)) : a = b := by
  induction a generalizing b with
  | nil => exact p.symm.eq_nil.symm
  | cons x a ih =>
    cases b with
    | nil => exact p.eq_nil
    | cons y b =>
      obtain ⟨ha1, ha2⟩ := List.pairwise_cons.mp ha
      obtain ⟨hb1, hb2⟩ := List.pairwise_cons.mp hb
      have e : x = y := by
        have h1 : x ≤ y := by
          rcases List.mem_cons.mp (p.mem_iff.mp (.head _)) with e | h
          · exact Nat.le_of_eq e
          · exact hb1 x h
        have h2 : y ≤ x := by
          rcases List.mem_cons.mp (p.mem_iff.mpr (.head _)) with e | h
          · exact Nat.le_of_eq e
          · exact ha1 y h
        exact Nat.le_antisymm h1 h2
      subst e
      rw [ih p.cons_inv ha2 hb2]
/-- a row that falls, split at its top pair -/
theorem falls_split {ds rest : List Nat} {m : Nat} (hs : ds.Pairwise (· ≥ ·)) (p : ds.Perm ((m + 1) :: (m + 1) :: rest)) (le : ∀ x ∈ rest, x ≤ m + 1) :
    ∃ A B, ds = A ++ (m + 1) :: (m + 1) :: B ∧ (A ++ m :: B).Pairwise (· ≥ ·) ∧ (A ++ B).Perm rest ∧ (∀ x ∈ A, x = m + 1) := by
  have hall : ∀ x ∈ ds, x ≤ m + 1 := fun x hx => by
    rcases List.mem_cons.mp (p.mem_iff.mp hx) with e | h
    · exact Nat.le_of_eq e
    · rcases List.mem_cons.mp h with e | h
      · exact Nat.le_of_eq e
      · exact le x h
  have key : ∀ (ds : List Nat), ds.Pairwise (· ≥ ·) → (∀ x ∈ ds, x ≤ m + 1) → ∃ c B, ds = List.replicate c (m + 1) ++ B ∧ (∀ x ∈ B, x ≤ m) ∧ B.Pairwise (· ≥ ·) := by
    intro ds
    induction ds with
    | nil => intro _ _; exact ⟨0, [], rfl, fun x hx => (nomatch hx), .nil⟩
    | cons x ds ih =>
      intro hp hx
      obtain ⟨hp1, hp2⟩ := List.pairwise_cons.mp hp
      by_cases e : x = m + 1
      · obtain ⟨c, B, e1, e2, e3⟩ := ih hp2 fun y hy => hx y (.tail _ hy)
        subst e
        exact ⟨c + 1, B, by rw [e1]; rfl, e2, e3⟩
      · refine ⟨0, x :: ds, rfl, fun y hy => ?_, hp⟩
        have hxm : x ≤ m := Nat.le_of_lt_succ (Nat.lt_of_le_of_ne (hx x (.head _)) e)
        rcases List.mem_cons.mp hy with rfl | hy
        · exact hxm
        · exact Nat.le_trans (hp1 y hy) hxm
  obtain ⟨c, B, rfl, hB, hBs⟩ := key ds hs hall
  have hc : 2 ≤ c := by
    have h1 : (List.replicate c (m + 1) ++ B).count (m + 1) = c := by
      rw [List.count_append, List.count_replicate_self, List.count_eq_zero_of_not_mem fun h => Nat.not_succ_le_self _ (hB _ h)]; rfl
    have h2 := p.count_eq (m + 1)
    rw [h1, List.count_cons_self, List.count_cons_self] at h2
    omega
  obtain ⟨c, rfl⟩ : ∃ k, c = k + 2 := ⟨c - 2, by omega⟩
  have er : List.replicate (c + 2) (m + 1) = List.replicate c (m + 1) ++ [m + 1, m + 1] := by
    rw [← List.replicate_append_replicate]; rfl
  refine ⟨List.replicate c (m + 1), B, by rw [er]; simp, ?_, ?_, fun x hx => List.eq_of_mem_replicate hx⟩
  · rw [List.pairwise_append]
    refine ⟨List.pairwise_replicate.mpr (.inr (Nat.le_refl _)), List.pairwise_cons.mpr ⟨fun x hx => hB x hx, hBs⟩, fun x hx y hy => ?_⟩
    rw [List.eq_of_mem_replicate hx]
    rcases List.mem_cons.mp hy with rfl | hy
    · exact Nat.le_succ _
    · exact Nat.le_succ_of_le (hB y hy)
  · have q : (List.replicate (c + 2) (m + 1) ++ B).Perm ((m + 1) :: (m + 1) :: (List.replicate c (m + 1) ++ B)) := by
      rw [show List.replicate (c + 2) (m + 1) = (m + 1) :: (m + 1) :: List.replicate c (m + 1) from rfl]
      exact .refl _
    exact (q.symm.trans p).cons_inv.cons_inv
/-- every such row of depths, falling, is a tree's -/
theorem KR.tree : ∀ (n : Nat) {ds : List Nat}, ds.length = n → KR ds → ds.Pairwise (· ≥ ·) → ∃ s, dep s 0 = ds
  | 0, ds, hn, h, hs => by
    rcases h.top with rfl | ⟨m, rest, p, _⟩
    · exact ⟨.leaf, rfl⟩
    · have := p.length_eq; simp at this; omega
  | n + 1, ds, hn, h, hs => by
    rcases h.top with rfl | ⟨m, rest, p, le, k⟩
    · exact ⟨.leaf, rfl⟩
    · obtain ⟨A, B, e, hs', hp', _⟩ := falls_split hs p le
      have k' : KR (A ++ m :: B) := k.perm ((hp'.symm.cons m).trans List.perm_middle.symm)
      obtain ⟨s, hs2⟩ := KR.tree n (by rw [e] at hn; simp at hn ⊢; omega) k' hs'
      obtain ⟨s', h2⟩ := split_at s 0 A B m hs2
      exact ⟨s', h2.trans e.symm⟩
end
section
noncomputable def dot : List Nat → List Nat → Nat
  | w :: ws, d :: ds => w * d + dot ws ds
  | _, _ => 0
noncomputable def cst : List (Nat × Nat) → Nat
  | [] => 0
  | p :: ps => p.1 * p.2 + cst ps
theorem cst_perm {a b : List (Nat × Nat)} (p : a.Perm b) : cst a = cst b := by
  induction p with
  | nil => rfl
  | cons x _ ih => simp only [cst, ih]
  | swap x y l => simp only [cst]; omega
  | trans _ _ h1 h2 => exact h1.trans h2
theorem cst_zip : ∀ (l ds : List Nat), cst (l.zip ds) = dot l ds
  | [], _ => by simp [cst, dot]
  | _ :: _, [] => by simp [cst, dot]
  | w :: l, d :: ds => by simp only [List.zip_cons_cons, cst, dot, cst_zip l ds]
theorem fst_zip : ∀ {l ds : List Nat}, l.length = ds.length → (l.zip ds).map (·.1) = l
  | [], _, _ => by simp
  | w :: l, [], h => by simp at h
  | w :: l, d :: ds, h => by simp only [List.zip_cons_cons, List.map_cons]; rw [fst_zip (by simpa using h)]
theorem snd_zip : ∀ {l ds : List Nat}, l.length = ds.length → (l.zip ds).map (·.2) = ds
  | [], [], _ => by simp
  | [], d :: ds, h => by simp at h
  | w :: l, [], h => by simp at h
  | w :: l, d :: ds, h => by simp only [List.zip_cons_cons, List.map_cons]; rw [snd_zip (by simpa using h)]
theorem swap_le {a w x m : Nat} (h1 : a ≤ w) (h2 : x ≤ m) : a * m + w * x ≤ a * x + w * m := by
  obtain ⟨p, rfl⟩ := Nat.exists_eq_add_of_le h1
  obtain ⟨q, rfl⟩ := Nat.exists_eq_add_of_le h2
  simp only [Nat.mul_add, Nat.add_mul]
  omega
/-- deep leaves for small weights cost least -/
theorem rearr : ∀ (l ds : List Nat) (ps : List (Nat × Nat)), (ps.map (·.1)).Perm l → (ps.map (·.2)).Perm ds → l.Pairwise (· ≤ ·) → ds.Pairwise (· ≥ ·) → dot l ds ≤ cst ps
  | [], ds, ps, _, _, _, _ => by simp [dot]
  | a :: l, [], ps, _, _, _, _ => by simp [dot]
  | a :: l, m :: ds, ps, h1, h2, hl, hd => by
    obtain ⟨hl1, hl2⟩ := List.pairwise_cons.mp hl
    obtain ⟨hd1, hd2⟩ := List.pairwise_cons.mp hd
    obtain ⟨⟨a', x⟩, hm, e⟩ := List.mem_map.mp (h1.mem_iff.mpr (.head _))
    have e' : a' = a := e
    subst e'
    have p1 := List.perm_cons_erase hm
    have f1 : ((ps.erase (a', x)).map (·.1)).Perm l := ((p1.map (·.1)).symm.trans h1).cons_inv
    have f2 : (x :: (ps.erase (a', x)).map (·.2)).Perm (m :: ds) := ((p1.map (fun (q : Nat × Nat) => q.2)).symm.trans h2 : _)
    rw [cst_perm p1]
    generalize ps.erase (a', x) = ps1 at f1 f2
    by_cases hx : x = m
    · subst hx
      exact Nat.add_le_add_left (rearr l ds ps1 f1 f2.cons_inv hl2 hd2) _
    · have hmm : m ∈ ps1.map (·.2) := by
        rcases List.mem_cons.mp (f2.mem_iff.mpr (.head _)) with e | h
        · exact absurd e.symm hx
        · exact h
      obtain ⟨⟨w, m'⟩, hm2, e2⟩ := List.mem_map.mp hmm
      have e2' : m' = m := e2
      subst e2'
      have p2 := List.perm_cons_erase hm2
      have g1 : (w :: (ps1.erase (w, m')).map (·.1)).Perm l := (p2.map (fun (q : Nat × Nat) => q.1)).symm.trans f1
      have g2 : (x :: (ps1.erase (w, m')).map (·.2)).Perm ds := by
        have h3 : (x :: m' :: (ps1.erase (w, m')).map (·.2)).Perm (m' :: ds) := ((p2.map (fun (q : Nat × Nat) => q.2)).symm.cons x).trans f2
        exact ((List.Perm.swap _ _ _).trans h3).cons_inv
      have ih := rearr l ds ((w, x) :: ps1.erase (w, m')) g1 g2 hl2 hd2
      have haw : a' ≤ w := hl1 w (g1.mem_iff.mp (.head _))
      have hxm : x ≤ m' := by
        rcases List.mem_cons.mp (f2.mem_iff.mp (.head _)) with e | h
        · exact Nat.le_of_eq e
        · exact hd1 x h
      have hs := swap_le haw hxm
      have hc := cst_perm p2
      simp only [cst] at ih hc ⊢
      simp only [dot]
      omega
noncomputable def ins (x : Nat) : List Nat → List Nat
  | [] => [x]
  | y :: l => if x ≤ y then x :: y :: l else y :: ins x l
theorem ins_perm (x : Nat) : ∀ l, (ins x l).Perm (x :: l)
  | [] => .refl _
  | y :: l => by
    unfold ins
    split
    · exact .refl _
    · exact ((ins_perm x l).cons y).trans (List.Perm.swap _ _ _)
theorem ins_sorted (x : Nat) : ∀ l : List Nat, l.Pairwise (· ≤ ·) → (ins x l).Pairwise (· ≤ ·)
  | [], _ => List.pairwise_singleton _ _
  | y :: l, h => by
    obtain ⟨h1, h2⟩ := List.pairwise_cons.mp h
    unfold ins
    split
    · rename_i hx
      exact List.pairwise_cons.mpr ⟨fun z hz => by
        rcases List.mem_cons.mp hz with rfl | hz
        · exact hx
        · exact Nat.le_trans hx (h1 z hz), h⟩
    · rename_i hx
      refine List.pairwise_cons.mpr ⟨fun z hz => ?_, ins_sorted x l h2⟩
      rcases List.mem_cons.mp ((ins_perm x l).mem_iff.mp hz) with rfl | hz
      · exact Nat.le_of_lt (Nat.lt_of_not_le hx)
      · exact h1 z hz
/-- the row of sums -/
noncomputable def hs : Nat → List Nat → List Nat
  | n + 1, a :: b :: r => (a + b) :: hs n (ins (a + b) r)
  | _, _ => []
theorem ins_len (x : Nat) (l : List Nat) : (ins x l).length = l.length + 1 := (ins_perm x l).length_eq
theorem two_of {n : Nat} {l : List Nat} (h : l.length = n + 1 + 1) : ∃ a b r, l = a :: b :: r ∧ r.length = n := by
  match l, h with
  | a :: b :: r, h => exact ⟨a, b, r, rfl, by simpa using h⟩
theorem huff_tree : ∀ (n : Nat) (l : List Nat), l.length = n + 1 → ∃ ps : List (Nat × Nat), (ps.map (·.1)).Perm l ∧ KR (ps.map (·.2)) ∧ cst ps = (hs n l).sum
  | 0, l, h => by
    match l, h with
    | [x], _ => exact ⟨[(x, 0)], .refl _, .one, rfl⟩
  | n + 1, l, h => by
    obtain ⟨a, b, r, rfl, hr⟩ := two_of h
    obtain ⟨ps, h1, h2, h3⟩ := huff_tree n (ins (a + b) r) (by rw [ins_len, hr])
    have hm : a + b ∈ ps.map (·.1) := h1.mem_iff.mpr ((ins_perm _ _).mem_iff.mpr (.head _))
    obtain ⟨⟨w, d⟩, hm2, e⟩ := List.mem_map.mp hm
    have e' : w = a + b := e
    subst e'
    have p := List.perm_cons_erase hm2
    have q1 : ((ps.erase (a + b, d)).map (·.1)).Perm r := ((p.map (·.1)).symm.trans (h1.trans (ins_perm _ _))).cons_inv
    have q2 : KR (d :: (ps.erase (a + b, d)).map (·.2)) := h2.perm (p.map (·.2))
    refine ⟨(a, d + 1) :: (b, d + 1) :: ps.erase (a + b, d), (q1.cons b).cons a, q2.exp, ?_⟩
    have hc := cst_perm p
    simp only [cst, hs, List.sum_cons] at hc ⊢
    rw [← h3, hc]
    simp only [Nat.mul_add, Nat.add_mul]
    omega
noncomputable def insD (x : Nat) : List Nat → List Nat
  | [] => [x]
  | y :: l => if y ≤ x then x :: y :: l else y :: insD x l
theorem insD_perm (x : Nat) : ∀ l, (insD x l).Perm (x :: l)
  | [] => .refl _
  | y :: l => by
    unfold insD
    split
    · exact .refl _
    · exact ((insD_perm x l).cons y).trans (List.Perm.swap _ _ _)
theorem insD_sorted (x : Nat) : ∀ l : List Nat, l.Pairwise (· ≥ ·) → (insD x l).Pairwise (· ≥ ·)
  | [], _ => List.pairwise_singleton _ _
  | y :: l, h => by
    obtain ⟨h1, h2⟩ := List.pairwise_cons.mp h
    unfold insD
    split
    · rename_i hx
      exact List.pairwise_cons.mpr ⟨fun z hz => by
        rcases List.mem_cons.mp hz with rfl | hz
        · exact hx
        · exact Nat.le_trans (h1 z hz) hx, h⟩
    · rename_i hx
      refine List.pairwise_cons.mpr ⟨fun z hz => ?_, insD_sorted x l h2⟩
      rcases List.mem_cons.mp ((insD_perm x l).mem_iff.mp hz) with rfl | hz
      · exact Nat.le_of_lt (Nat.lt_of_not_le hx)
      · exact h1 z hz
theorem falling : ∀ l : List Nat, ∃ ds : List Nat, ds.Perm l ∧ ds.Pairwise (· ≥ ·)
  | [] => ⟨[], .refl _, .nil⟩
  | x :: l => by
    obtain ⟨ds, p, h⟩ := falling l
    exact ⟨insD x ds, (insD_perm x ds).trans (p.cons x), insD_sorted x ds h⟩
theorem head_max {ds r : List Nat} {x : Nat} (hs : ds.Pairwise (· ≥ ·)) (p : ds.Perm (x :: r)) (le : ∀ y ∈ r, y ≤ x) : ∃ ds', ds = x :: ds' ∧ ds'.Perm r := by
  cases ds with
  | nil => have := p.length_eq; simp at this
  | cons y ds =>
    have h1 : x ≤ y := by
      rcases List.mem_cons.mp (p.mem_iff.mpr (.head _)) with e | h
      · exact Nat.le_of_eq e
      · exact (List.pairwise_cons.mp hs).1 x h
    have h2 : y ≤ x := by
      rcases List.mem_cons.mp (p.mem_iff.mp (.head _)) with e | h
      · exact Nat.le_of_eq e
      · exact le y h
    have e := Nat.le_antisymm h1 h2
    subst e
    exact ⟨ds, rfl, p.cons_inv⟩
theorem huff_least : ∀ (n : Nat) (l : List Nat) (ps : List (Nat × Nat)), l.length = n + 1 → l.Pairwise (· ≤ ·) → (ps.map (·.1)).Perm l → KR (ps.map (·.2)) → (hs n l).sum ≤ cst ps
  | 0, l, ps, h, _, _, _ => by simp [hs]
  | n + 1, l, ps, h, hl, h1, h2 => by
    obtain ⟨a, b, r, rfl, hr⟩ := two_of h
    obtain ⟨ds, pd, hd⟩ := falling (ps.map (·.2))
    have hle := rearr _ ds ps h1 pd.symm hl hd
    have kd : KR ds := h2.perm pd.symm
    have hlen : ds.length = n + 1 + 1 := by
      rw [pd.length_eq, List.length_map, ← List.length_map (f := (·.1)) (as := ps), h1.length_eq, h]
    rcases kd.top with e | ⟨m, rest, p, le, k⟩
    · rw [e] at hlen; simp at hlen
    · obtain ⟨d1, rfl, q1⟩ := head_max hd p (fun y hy => by
        rcases List.mem_cons.mp hy with rfl | hy
        · exact Nat.le_refl _
        · exact le y hy)
      obtain ⟨d2, rfl, q2⟩ := head_max (List.pairwise_cons.mp hd).2 q1 le
      have hl2 : r.length = d2.length := by simp at hlen; omega
      have hlr := (List.pairwise_cons.mp (List.pairwise_cons.mp hl).2).2
      have ih := huff_least n (ins (a + b) r) ((a + b, m) :: r.zip d2) (by rw [ins_len, hr]) (ins_sorted _ _ hlr)
        (by
          show ((a + b) :: (r.zip d2).map (·.1)).Perm _
          rw [fst_zip hl2]; exact (ins_perm _ _).symm)
        (by
          show KR (m :: (r.zip d2).map (·.2))
          rw [snd_zip hl2]; exact k.perm (q2.symm.cons m))
      simp only [cst, cst_zip] at ih
      simp only [dot] at hle
      simp only [hs, List.sum_cons]
      refine Nat.le_trans ?_ hle
      simp only [Nat.mul_add, Nat.add_mul] at ih ⊢
      omega
/-! the least cost over all cuts -/
structure IsC (l : List Nat) (c : Nat) : Prop where
  some : ∃ s, (dep s 0).length = l.length ∧ dot l (dep s 0) = c
  least : ∀ s, (dep s 0).length = l.length → c ≤ dot l (dep s 0)
theorem dep_succ : ∀ (s : Sh) (d : Nat), dep s (d + 1) = (dep s d).map (· + 1)
  | .leaf, d => rfl
  | .node l r, d => by simp only [dep, dep_succ l (d + 1), dep_succ r (d + 1), List.map_append]
theorem dep_pos : ∀ (s : Sh) (d : Nat), 0 < (dep s d).length
  | .leaf, d => by simp [dep]
  | .node l r, d => by
    have := dep_pos l (d + 1)
    simp only [dep, List.length_append]; omega
theorem dot_succ : ∀ (l ds : List Nat), l.length = ds.length → dot l (ds.map (· + 1)) = dot l ds + l.sum
  | [], _, _ => by simp [dot]
  | w :: l, [], h => by simp at h
  | w :: l, d :: ds, h => by
    simp only [List.map_cons, dot, List.sum_cons, dot_succ l ds (by simpa using h), Nat.mul_add]
    omega
theorem dot_app : ∀ (l ds es : List Nat), dot l (ds ++ es) = dot (l.take ds.length) ds + dot (l.drop ds.length) es
  | l, [], es => by
    rw [List.nil_append, List.length_nil, List.take_zero, List.drop_zero]
    simp [dot]
  | [], d :: ds, es => by simp [dot]
  | w :: l, d :: ds, es => by
    simp only [List.cons_append, List.length_cons, List.take_succ_cons, List.drop_succ_cons, dot, dot_app l ds es]
    omega
theorem IsC.one (w : Nat) : IsC [w] 0 := by
  refine ⟨⟨.leaf, rfl, rfl⟩, fun s h => Nat.zero_le _⟩
theorem node_dot (a b : Sh) (l : List Nat) (h : (dep (.node a b) 0).length = l.length) : dot l (dep (.node a b) 0) = l.sum + (dot (l.take (dep a 0).length) (dep a 0) + dot (l.drop (dep a 0).length) (dep b 0)) := by
  have hl : (dep a 0).length + (dep b 0).length = l.length := by
    simpa only [dep, List.length_append, dep_succ, List.length_map] using h
  show dot l (dep a 1 ++ dep b 1) = _
  rw [dep_succ, dep_succ, dot_app, List.length_map, dot_succ _ _ (by rw [List.length_take]; omega), dot_succ _ _ (by rw [List.length_drop]; omega)]
  have : l.sum = (l.take (dep a 0).length).sum + (l.drop (dep a 0).length).sum := by rw [← List.sum_append_nat, List.take_append_drop]
  omega
theorem IsC.step {l : List Nat} {M : Nat} (h2 : 2 ≤ l.length) (x y : Nat → Nat) (hx : ∀ k, 1 ≤ k → k < l.length → IsC (l.take k) (x k)) (hy : ∀ k, 1 ≤ k → k < l.length → IsC (l.drop k) (y k))
    (h1 : ∃ k, 1 ≤ k ∧ k < l.length ∧ M = x k + y k) (hm : ∀ k, 1 ≤ k → k < l.length → M ≤ x k + y k) : IsC l (l.sum + M) := by
  constructor
  · obtain ⟨k, k1, k2, rfl⟩ := h1
    obtain ⟨a, ha1, ha2⟩ := (hx k k1 k2).some
    obtain ⟨b, hb1, hb2⟩ := (hy k k1 k2).some
    rw [List.length_take] at ha1
    rw [List.length_drop] at hb1
    have e : (dep a 0).length = k := by omega
    have hlen : (dep (.node a b) 0).length = l.length := by
      simp only [dep, List.length_append, dep_succ, List.length_map]; omega
    refine ⟨.node a b, hlen, ?_⟩
    rw [node_dot a b l hlen, e, ha2, hb2]
  · intro s hs
    cases s with
    | leaf => simp [dep] at hs; omega
    | node a b =>
      rw [node_dot a b l hs]
      have pa := dep_pos a 0
      have pb := dep_pos b 0
      have hl : (dep a 0).length + (dep b 0).length = l.length := by
        simpa only [dep, List.length_append, dep_succ, List.length_map] using hs
      have i1 := (hx _ pa (by omega)).least a (by rw [List.length_take]; omega)
      have i2 := (hy _ pa (by omega)).least b (by rw [List.length_drop]; omega)
      have i3 := hm _ pa (by omega)
      omega
theorem huff_is {n : Nat} {l : List Nat} {c : Nat} (h : l.length = n + 1) (hl : l.Pairwise (· ≤ ·)) (hc : IsC l c) : c = (hs n l).sum := by
  apply Nat.le_antisymm
  · obtain ⟨ps, p1, p2, p3⟩ := huff_tree n l h
    obtain ⟨ds, pd, hd⟩ := falling (ps.map (·.2))
    obtain ⟨s, e⟩ := KR.tree _ rfl (p2.perm pd.symm) hd
    have hle := rearr l ds ps p1 pd.symm hl hd
    have hlen : (dep s 0).length = l.length := by
      rw [e, pd.length_eq, List.length_map, ← List.length_map (f := (·.1)) (as := ps), p1.length_eq]
    have := hc.least s hlen
    rw [e] at this
    omega
  · obtain ⟨s, e1, e2⟩ := hc.some
    have := huff_least n l (l.zip (dep s 0)) h hl (by rw [fst_zip e1.symm]) (by rw [snd_zip e1.symm]; exact KR_sh s)
    rw [cst_zip, e2] at this
    exact this
end
section
/-! two queues -/
noncomputable def pick : List Nat → List Nat → Nat × List Nat × List Nat
  | a :: A, [] => (a, A, [])
  | a :: A, b :: B => if a ≤ b then (a, A, b :: B) else (b, a :: A, B)
  | [], b :: B => (b, [], B)
  | [], [] => (0, [], [])
theorem pick_min {A B r : List Nat} {x : Nat} (hA : A.Pairwise (· ≤ ·)) (hB : B.Pairwise (· ≤ ·)) (p : (A ++ B).Perm (x :: r)) (le : ∀ y ∈ r, x ≤ y) :
    ∃ A' B', pick A B = (x, A', B') ∧ (A' ++ B').Perm r ∧ A'.Pairwise (· ≤ ·) ∧ B'.Pairwise (· ≤ ·) ∧ (∀ y ∈ B', y ∈ B) := by
  have all : ∀ y ∈ A ++ B, x ≤ y := fun y hy => by
    rcases List.mem_cons.mp (p.mem_iff.mp hy) with e | h
    · exact Nat.le_of_eq e.symm
    · exact le y h
  have hx : x ∈ A ++ B := p.mem_iff.mpr (.head _)
  cases A with
  | nil =>
    cases B with
    | nil => cases hx
    | cons b B =>
      have e : b = x := by
        refine Nat.le_antisymm ?_ (all b (.head _))
        rcases List.mem_cons.mp hx with e | h
        · exact Nat.le_of_eq e.symm
        · exact (List.pairwise_cons.mp hB).1 x h
      subst e
      exact ⟨[], B, rfl, p.cons_inv, .nil, (List.pairwise_cons.mp hB).2, fun y hy => .tail _ hy⟩
  | cons a A =>
    obtain ⟨hA1, hA2⟩ := List.pairwise_cons.mp hA
    cases B with
    | nil =>
      rw [List.append_nil] at p hx all
      have e : a = x := by
        refine Nat.le_antisymm ?_ (all a (.head _))
        rcases List.mem_cons.mp hx with e | h
        · exact Nat.le_of_eq e.symm
        · exact hA1 x h
      subst e
      exact ⟨A, [], rfl, by rw [List.append_nil]; exact p.cons_inv, hA2, .nil, fun y hy => hy⟩
    | cons b B =>
      obtain ⟨hB1, hB2⟩ := List.pairwise_cons.mp hB
      by_cases hab : a ≤ b
      · have e : a = x := by
          refine Nat.le_antisymm ?_ (all a (.head _))
          rcases List.mem_append.mp hx with h | h
          · rcases List.mem_cons.mp h with e | h
            · exact Nat.le_of_eq e.symm
            · exact hA1 x h
          · rcases List.mem_cons.mp h with e | h
            · rw [e]; exact hab
            · exact Nat.le_trans hab (hB1 x h)
        subst e
        exact ⟨A, b :: B, by simp [pick, hab], p.cons_inv, hA2, hB, fun y hy => hy⟩
      · have hba : b ≤ a := Nat.le_of_lt (Nat.lt_of_not_le hab)
        have e : b = x := by
          refine Nat.le_antisymm ?_ (all b (List.mem_append_right _ (.head _)))
          rcases List.mem_append.mp hx with h | h
          · rcases List.mem_cons.mp h with e | h
            · rw [e]; exact hba
            · exact Nat.le_trans hba (hA1 x h)
          · rcases List.mem_cons.mp h with e | h
            · exact Nat.le_of_eq e.symm
            · exact hB1 x h
        subst e
        exact ⟨a :: A, B, by simp [pick, hab], (List.perm_middle.symm.trans p).cons_inv, hA, hB2, fun y hy => .tail _ hy⟩
structure QI (sl A B : List Nat) : Prop where
  perm : (A ++ B).Perm sl
  srt : sl.Pairwise (· ≤ ·)
  a : A.Pairwise (· ≤ ·)
  b : B.Pairwise (· ≤ ·)
  low : ∃ c, (∀ x ∈ sl, c ≤ x) ∧ ∀ x ∈ B, x ≤ 2 * c
theorem QI.start {l : List Nat} (h : l.Pairwise (· ≤ ·)) : QI l l [] := ⟨by rw [List.append_nil], h, h, .nil, 0, fun _ _ => Nat.zero_le _, fun x hx => nomatch hx⟩
theorem QI.step {a b : Nat} {r A B : List Nat} (h : QI (a :: b :: r) A B) : ∃ A₁ B₁ A₂ B₂, pick A B = (a, A₁, B₁) ∧ (A₁ ++ B₁).Perm (b :: r) ∧ pick A₁ B₁ = (b, A₂, B₂) ∧ (A₂ ++ B₂).Perm r ∧ QI (ins (a + b) r) A₂ (B₂ ++ [a + b]) := by
  obtain ⟨h1, h2⟩ := List.pairwise_cons.mp h.srt
  obtain ⟨h3, h4⟩ := List.pairwise_cons.mp h2
  obtain ⟨A₁, B₁, e1, p1, a1, b1, s1⟩ := pick_min h.a h.b h.perm h1
  obtain ⟨A₂, B₂, e2, p2, a2, b2, s2⟩ := pick_min a1 b1 p1 h3
  refine ⟨A₁, B₁, A₂, B₂, e1, p1, e2, p2, ?_⟩
  obtain ⟨c, c1, c2⟩ := h.low
  have hab := h1 b (.head _)
  have hcb : c ≤ b := c1 b (.tail _ (.head _))
  have hBab : ∀ x ∈ B₂, x ≤ a + b := fun x hx => by
    have := c2 x (s1 x (s2 x hx))
    have := c1 a (.head _)
    omega
  refine ⟨?_, ins_sorted _ _ h4, a2, ?_, b, ?_, ?_⟩
  · rw [← List.append_assoc]
    exact (List.perm_append_comm.trans (p2.cons (a + b))).trans (ins_perm _ _).symm
  · rw [List.pairwise_append]
    refine ⟨b2, List.pairwise_singleton _ _, fun x hx y hy => ?_⟩
    cases List.mem_singleton.mp hy
    exact hBab x hx
  · intro x hx
    rcases List.mem_cons.mp ((ins_perm _ _).mem_iff.mp hx) with rfl | hx
    · omega
    · exact h3 x hx
  · intro x hx
    rcases List.mem_append.mp hx with hx | hx
    · have := c2 x (s1 x (s2 x hx)); omega
    · cases List.mem_singleton.mp hx; omega
end
section
open PySem PySem.Spec PySem.Calls PyProof.Rows PySem.P

variable {T : TI} {A : Around} {Cl N : Addr} {mN : Str → Option Value}
theorem token_pop (tc : Tc T Cl N mN) {k : Nat} {c' tb : Addr} {pos : Pos} {m : MA} {n : Int} {rest : List Nat} {v : V} {vs : List V} {a : Addr} {pm cd : Value} (d : DefAt T a (fdOf (sn "_netrclex.get_token") pm cd (mth 2)) (fdB (mth 2))) (rm : Rm A (k + 8)) (hl : vs.length ≤ 1000) :
    Call T A (rd Cl c' m n rest ++ [(tb, .tab1 c' pos rdQ)] ++ [(m.pb, .list (v :: vs))]) (.ref a) [.ref m.x] (fun w C' => w = v ∧ C' = rd Cl c' m n rest ++ [(tb, .tab1 c' pos rdQ)] ++ [(m.pb, .list vs)]) := by
  refine Call_def (n := k + 7) (names := [sn "self"]) (ℓ₀ := [(sn "self", .ref m.x)]) d rm (fun xs hxs => ?_) (by simp) rfl (no_cell (by kernel_rfl)) (all_local (by kernel_rfl)) (fun L => ?_)
  · obtain ⟨x, rfl⟩ := len1 hxs
    kernel_rfl
  have rm' := rm.deeper (callEnv (fdOf (sn "_netrclex.get_token") pm cd (mth 2)) L a)
  generalize A.deeper (callEnv (fdOf (sn "_netrclex.get_token") pm cd (mth 2)) L a) = A' at rm' ⊢
  refine Exs_cons ?_
  refine Ex_if ?_
  refine Tr_value ?_
  refine Ev_attr tc.cls tc.pushback o_pushback ?_
  repeat walk_at "ev"
  refine ⟨m.x, 0, m.d, _, .ref m.pb, rfl, rfl, by walk_at "lk", (fun id e => nomatch e), ?_⟩
  refine T_list (i := 6) rfl (by simp; omega) ?_
  refine ⟨_, rfl, ?_⟩
  refine sbT ?_
  refine Exs_cons ?_
  refine Ex_return ?_
  refine Ev_method ?_
  refine Ev_attr tc.cls tc.pushback o_pushback ?_
  repeat walk_at "ev"
  refine ⟨m.x, 0, m.d, _, .ref m.pb, rfl, rfl, by walk_at "lk", (fun id e => nomatch e), ?_⟩
  refine ⟨_, GM_list (i := 6) rfl F.slot_list_pop F.type_list_pop, .inl ⟨_, rfl⟩, ?_⟩
  repeat walk_at "ev"
  refine ⟨.inl ⟨_, rfl⟩, Call_pop0 (i := 6) rfl (by omega) ?_⟩
  refine ⟨_, rfl, ?_⟩
  exact ⟨_, List.Sublist.refl _, rfl, rfl⟩
theorem push_call (tc : Tc T Cl N mN) {k : Nat} {x d pb : Addr} {n : Int} {t v : V} {vs : List V} {a : Addr} {pm cd : Value} (dP : DefAt T a (fdOf (sn "_netrclex.push_token") pm cd (mth 3)) (fdB (mth 3))) (rm : Rm A (k + 1)) (hl : vs.length ≤ 1000) :
    Call T A [(x, .inst Cl d (lexA n t pb)), (pb, .list vs)] (.ref a) [.ref x, v] (fun w C' => w = .none ∧ C' = [(x, .inst Cl d (lexA n t pb)), (pb, .list (vs ++ [v]))]) := by
  refine Call_def (n := k) (names := [sn "self", sn "token"]) (ℓ₀ := [(sn "self", .ref x), (sn "token", v)]) dP rm (fun xs hxs => ?_) (names2 (by decide +kernel)) rfl (no_cell (by kernel_rfl)) (all_local (by kernel_rfl)) (fun L => ?_)
  · obtain ⟨x, y, rfl⟩ := len2 hxs
    kernel_rfl
  refine Exs_cons ?_
  refine Ex_expr ?_
  refine Ev_method ?_
  refine Ev_attr tc.cls tc.pushback o_pushback ?_
  repeat walk_at "ev"
  refine ⟨x, 0, d, _, .ref pb, rfl, rfl, by walk_at "lk", (fun id e => nomatch e), ?_⟩
  refine ⟨_, GM_list (i := 2) rfl F.slot_list_append F.type_list_append, .inl ⟨_, rfl⟩, ?_⟩
  repeat walk_at "ev"
  refine ⟨.inl ⟨_, rfl⟩, Call_append (i := 2) rfl (by omega) ?_⟩
  refine ⟨_, rfl, rfl, ?_⟩
  refine Exs_nil ?_
  exact ⟨_, List.Sublist.refl _, rfl, rfl⟩
end
section
open PySem PySem.Spec PySem.Calls PyProof.Rows PySem.P
/-! the heap, without a program -/
noncomputable def gv (ws : List V) (i : Nat) : V := ws.getD i .none
theorem gv_set {ws : List V} {p : Nat} (v : V) (i : Nat) (hp : p < ws.length) : gv (ws.set p v) i = if i = p then v else gv ws i := by
  unfold gv
  rw [List.getD_eq_getElem?_getD, List.getD_eq_getElem?_getD, List.getElem?_set]
  by_cases h : p = i
  · subst h; simp [hp]
  · have h' : ¬ i = p := fun e => h e.symm
    simp [h, h']
theorem gv_mem {ws : List V} {i : Nat} (h : i < ws.length) : gv ws i ∈ ws := getD_mem h
structure LO (lt : V → V → Bool) (S : V → Prop) : Prop where
  asym : ∀ a b, S a → S b → lt a b = true → lt b a = false
  letr : ∀ a b c, S a → S b → S c → lt b a = false → lt c b = false → lt c a = false
inductive Dsc (k : Nat) : Nat → Prop
  | refl : Dsc k k
  | l {p : Nat} (h : Dsc k p) : Dsc k (2 * p + 1)
  | r {p : Nat} (h : Dsc k p) : Dsc k (2 * p + 2)
theorem Dsc.ge {k p : Nat} (h : Dsc k p) : k ≤ p := by
  induction h with
  | refl => omega
  | l _ ih => omega
  | r _ ih => omega
theorem Dsc.par {k p : Nat} (h : Dsc k p) (hp : k < p) : Dsc k ((p - 1) / 2) := by
  cases h with
  | refl => omega
  | @l p h =>
    have e : (2 * p + 1 - 1) / 2 = p := by omega
    rw [e]; exact h
  | @r p h =>
    have e : (2 * p + 2 - 1) / 2 = p := by omega
    rw [e]; exact h
noncomputable def HP (lt : V → V → Bool) (k : Nat) (ws : List V) : Prop := ∀ c, 0 < c → c < ws.length → k ≤ (c - 1) / 2 → lt (gv ws c) (gv ws ((c - 1) / 2)) = false
/-- heap but for a hole at p -/
structure HH (lt : V → V → Bool) (k p : Nat) (ws : List V) : Prop where
  p1 : ∀ c, 0 < c → c < ws.length → k ≤ (c - 1) / 2 → c ≠ p → (c - 1) / 2 ≠ p → lt (gv ws c) (gv ws ((c - 1) / 2)) = false
  p2 : ∀ c, 0 < c → c < ws.length → (c - 1) / 2 = p → k < p → lt (gv ws c) (gv ws ((p - 1) / 2)) = false
theorem perm_swap_set {ws : List V} {p q : Nat} (x : V) (hp : p < ws.length) (hq : q < ws.length) (hne : p ≠ q) : ((ws.set p (gv ws q)).set q x).Perm (ws.set p x) := by
  classical
  rw [List.perm_iff_count]
  intro b
  have hq' : q < (ws.set p (gv ws q)).length := by simpa using hq
  rw [List.count_set hq', List.count_set hp, List.count_set hp]
  have e : (ws.set p (gv ws q))[q]'hq' = gv ws q := by
    have e1 : gv ws q = ws[q] := by
      unfold gv
      rw [List.getD_eq_getElem?_getD, List.getElem?_eq_getElem hq]; rfl
    rw [List.getElem_set_ne hne, ← e1]
  rw [e]
  omega
theorem set_self {ws : List V} {p : Nat} (hp : p < ws.length) : ws.set p (gv ws p) = ws := by
  apply List.ext_getElem
  · simp
  · intro i h1 h2
    rw [List.getElem_set]
    split
    · rename_i e; subst e
      unfold gv
      rw [List.getD_eq_getElem?_getD, List.getElem?_eq_getElem hp]; rfl
    · rfl
variable {lt : V → V → Bool} {S : V → Prop}
theorem par_lt {c : Nat} (h : 0 < c) : (c - 1) / 2 < c := by omega
theorem par1 (p : Nat) : (2 * p + 1 - 1) / 2 = p := by omega
theorem par2 (p : Nat) : (2 * p + 2 - 1) / 2 = p := by omega
theorem par_or {c p : Nat} (h : 0 < c) (e : (c - 1) / 2 = p) : c = 2 * p + 1 ∨ c = 2 * p + 2 := by omega
theorem lt1 (p : Nat) : p < 2 * p + 1 := by omega
theorem lt2 (p : Nat) : p < 2 * p + 2 := by omega
theorem fall {n p q m : Nat} (h : n - p ≤ m + 1) (hpq : p < q) (hp : p < n) : n - q ≤ m := by omega
theorem upgo_step (L : LO lt S) {k p ch o : Nat} {ws : List V} (hp : p < ws.length) (hS : ∀ v ∈ ws, S v) (hd : Dsc k p) (hh : HH lt k p ws) (hcp : (ch - 1) / 2 = p) (hpc : p < ch) (ho : ∀ c, 0 < c → (c - 1) / 2 = p → c ≠ ch → c = o) (hch : ch < ws.length) (hle : o < ws.length → lt (gv ws o) (gv ws ch) = false) :
    (∀ v ∈ ws.set p (gv ws ch), S v) ∧ HH lt k ch (ws.set p (gv ws ch)) ∧ ∀ x, ((ws.set p (gv ws ch)).set ch x).Perm (ws.set p x) := by
  have hch0 : 0 < ch := Nat.lt_of_le_of_lt (Nat.zero_le _) hpc
  refine ⟨fun v hv => ?_, ⟨fun c hc hcl hck hcc hcp' => ?_, fun c hc hcl hcp' hk => ?_⟩, fun x => perm_swap_set x hp hch (Nat.ne_of_lt hpc)⟩
  · rcases List.mem_or_eq_of_mem_set hv with hv | rfl
    · exact hS v hv
    · exact hS _ (gv_mem hch)
  · rw [List.length_set] at hcl
    rw [gv_set _ _ hp, gv_set _ _ hp]
    by_cases h1 : c = p
    · subst h1
      rw [if_pos rfl, if_neg (Nat.ne_of_lt (par_lt hc))]
      exact hh.p2 ch hch0 hch hcp (Nat.lt_of_le_of_lt hck (par_lt hc))
    · rw [if_neg h1]
      by_cases h2 : (c - 1) / 2 = p
      · rw [if_pos h2]
        have := ho c hc h2 hcc
        subst this
        exact hle hcl
      · rw [if_neg h2]
        exact hh.p1 c hc hcl hck h1 h2
  · rw [List.length_set] at hcl
    rw [gv_set _ _ hp, gv_set _ _ hp]
    have hcc : ch < c := hcp' ▸ par_lt hc
    have h1 : ¬ c = p := Nat.ne_of_gt (Nat.lt_trans hpc hcc)
    rw [if_neg h1, if_pos hcp]
    have := hh.p1 c hc hcl (hcp' ▸ Nat.le_of_lt hk) h1 (hcp' ▸ Nat.ne_of_gt hpc)
    rw [hcp'] at this
    exact this
theorem upgo_ok (L : LO lt S) {k : Nat} : ∀ (m p : Nat) (ws : List V), ws.length - p ≤ m → p < ws.length → (∀ v ∈ ws, S v) → Dsc k p → HH lt k p ws →
    (upgo lt p ws).1 < ws.length ∧ (upgo lt p ws).2.length = ws.length ∧ (∀ v ∈ (upgo lt p ws).2, S v) ∧ Dsc k (upgo lt p ws).1 ∧ HH lt k (upgo lt p ws).1 (upgo lt p ws).2 ∧ ¬ 2 * (upgo lt p ws).1 + 1 < ws.length ∧ ∀ x, ((upgo lt p ws).2.set (upgo lt p ws).1 x).Perm (ws.set p x)
  | 0, p, ws, hm, hp, _, _, _ => absurd (Nat.sub_eq_zero_iff_le.mp (Nat.le_zero.mp hm)) (Nat.not_le_of_lt hp)
  | m + 1, p, ws, hm, hp, hS, hd, hh => by
    rw [upgo]
    split
    · rename_i h1
      split
      · rename_i h2
        obtain ⟨s1, s2, s4⟩ := upgo_step L (ch := 2 * p + 2) (o := 2 * p + 1) hp hS hd hh (par2 p) (lt2 p) (fun c hc e hne => (par_or hc e).resolve_right hne) h2.1 (fun _ => h2.2)
        have ih := upgo_ok L m (2 * p + 2) (ws.set p (gv ws (2 * p + 2))) (by rw [List.length_set]; exact fall hm (lt2 p) hp) (by rw [List.length_set]; exact h2.1) s1 (.r hd) s2
        simp only [List.length_set] at ih
        obtain ⟨i1, i2, i3, i4, i5, i6, i7⟩ := ih
        exact ⟨i1, i2, i3, i4, i5, i6, fun x => (i7 x).trans (s4 x)⟩
      · rename_i h2
        obtain ⟨s1, s2, s4⟩ := upgo_step L (ch := 2 * p + 1) (o := 2 * p + 2) hp hS hd hh (par1 p) (lt1 p) (fun c hc e hne => (par_or hc e).resolve_left hne) h1 (fun ho => by
          have : lt (gv ws (2 * p + 1)) (gv ws (2 * p + 2)) ≠ false := fun e => h2 ⟨ho, e⟩
          exact L.asym _ _ (hS _ (gv_mem h1)) (hS _ (gv_mem ho)) (Bool.not_eq_false _ ▸ this))
        have ih := upgo_ok L m (2 * p + 1) (ws.set p (gv ws (2 * p + 1))) (by rw [List.length_set]; exact fall hm (lt1 p) hp) (by rw [List.length_set]; exact h1) s1 (.l hd) s2
        simp only [List.length_set] at ih
        obtain ⟨i1, i2, i3, i4, i5, i6, i7⟩ := ih
        exact ⟨i1, i2, i3, i4, i5, i6, fun x => (i7 x).trans (s4 x)⟩
    · rename_i h1
      exact ⟨hp, rfl, hS, hd, hh, h1, fun x => .refl _⟩
theorem siftdn_ok (L : LO lt S) {k : Nat} {x : V} (hx : S x) : ∀ (m p : Nat) (ws : List V), p ≤ m → p < ws.length → (∀ v ∈ ws, S v) → Dsc k p → HH lt k p ws → (∀ c, 0 < c → c < ws.length → (c - 1) / 2 = p → lt (gv ws c) x = false) →
    HP lt k (siftdn lt k x p ws) ∧ (siftdn lt k x p ws).Perm (ws.set p x) := by
  have fin : ∀ (p : Nat) (ws : List V), p < ws.length → HH lt k p ws → (∀ c, 0 < c → c < ws.length → (c - 1) / 2 = p → lt (gv ws c) x = false) → (k < p → lt x (gv ws ((p - 1) / 2)) = false) → HP lt k (ws.set p x) := by
    intro p ws hp hh h2 h3 c hc hcl hck
    rw [List.length_set] at hcl
    rw [gv_set _ _ hp, gv_set _ _ hp]
    by_cases e1 : c = p
    · subst e1
      rw [if_pos rfl, if_neg (Nat.ne_of_lt (par_lt hc))]
      exact h3 (Nat.lt_of_le_of_lt hck (par_lt hc))
    · rw [if_neg e1]
      by_cases e2 : (c - 1) / 2 = p
      · rw [if_pos e2]; exact h2 c hc hcl e2
      · rw [if_neg e2]; exact hh.p1 c hc hcl hck e1 e2
  intro m
  induction m with
  | zero =>
    intro p ws hm hp hS hd hh h2
    have hk : ¬ k < p := fun h => Nat.not_lt_zero _ (Nat.lt_of_lt_of_le h hm)
    rw [siftdn, if_neg hk]
    exact ⟨fin p ws hp hh h2 fun h => absurd h hk, .refl _⟩
  | succ m ih =>
    intro p ws hm hp hS hd hh h2
    rw [siftdn]
    split
    · rename_i hkp
      have hp0 : 0 < p := Nat.lt_of_le_of_lt (Nat.zero_le _) hkp
      have hd' := hd.par hkp
      have hk' := hd'.ge
      have hlt0 := par_lt hp0
      have hpp : (p - 1) / 2 < ws.length := Nat.lt_trans hlt0 hp
      have hne : p ≠ (p - 1) / 2 := Nat.ne_of_gt hlt0
      split
      · rename_i hlt
        have hlt' : lt x (gv ws ((p - 1) / 2)) = true := hlt
        have hup := L.asym _ _ hx (hS _ (gv_mem hpp)) hlt'
        have := ih ((p - 1) / 2) (ws.set p (gv ws ((p - 1) / 2))) (Nat.le_of_lt_succ (Nat.lt_of_lt_of_le hlt0 hm)) (by rw [List.length_set]; exact hpp) (fun v hv => by
          rcases List.mem_or_eq_of_mem_set hv with hv | rfl
          · exact hS v hv
          · exact hS _ (gv_mem hpp)) hd' ⟨fun c hc hcl hck hcc hcp => ?_, fun c hc hcl hcp hk => ?_⟩ (fun c hc hcl hcp => ?_)
        · exact ⟨this.1, this.2.trans (perm_swap_set x hp hpp hne)⟩
        · rw [List.length_set] at hcl
          rw [gv_set _ _ hp, gv_set _ _ hp]
          have e1 : ¬ c = p := fun e => hcp (by rw [e])
          rw [if_neg e1]
          by_cases e2 : (c - 1) / 2 = p
          · rw [if_pos e2]; exact hh.p2 c hc hcl e2 hkp
          · rw [if_neg e2]; exact hh.p1 c hc hcl hck e1 e2
        · rw [List.length_set] at hcl
          rw [gv_set _ _ hp, gv_set _ _ hp]
          have h00 : 0 < (p - 1) / 2 := Nat.lt_of_le_of_lt (Nat.zero_le _) hk
          have hlt1 := par_lt h00
          rw [if_neg (Nat.ne_of_lt (Nat.lt_trans hlt1 hlt0))]
          have up : lt (gv ws ((p - 1) / 2)) (gv ws (((p - 1) / 2 - 1) / 2)) = false := hh.p1 ((p - 1) / 2) h00 hpp (hd'.par hk).ge (Ne.symm hne) (Nat.ne_of_lt (Nat.lt_trans hlt1 hlt0))
          by_cases e1 : c = p
          · rw [if_pos e1]; exact up
          · rw [if_neg e1]
            have := hh.p1 c hc hcl (hcp ▸ hk') e1 (hcp ▸ Ne.symm hne)
            rw [hcp] at this
            exact L.letr _ _ _ (hS _ (gv_mem (Nat.lt_trans hlt1 hpp))) (hS _ (gv_mem hpp)) (hS _ (gv_mem hcl)) up this
        · rw [List.length_set] at hcl
          rw [gv_set _ _ hp]
          by_cases e1 : c = p
          · rw [if_pos e1]; exact hup
          · rw [if_neg e1]
            have := hh.p1 c hc hcl (hcp ▸ hk') e1 (hcp ▸ Ne.symm hne)
            rw [hcp] at this
            exact L.letr _ _ _ hx (hS _ (gv_mem hpp)) (hS _ (gv_mem hcl)) hup this
      · rename_i hlt
        exact ⟨fin p ws hp hh h2 (fun _ => Bool.not_eq_true _ ▸ hlt), .refl _⟩
    · rename_i hk
      exact ⟨fin p ws hp hh h2 fun h => absurd h hk, .refl _⟩
theorem siftup_ok (L : LO lt S) {k : Nat} {ws : List V} (hk : k < ws.length) (hS : ∀ v ∈ ws, S v) (h : HP lt (k + 1) ws) : HP lt k (siftup lt k ws) ∧ (siftup lt k ws).Perm ws := by
  have hx : S (gv ws k) := hS _ (gv_mem hk)
  obtain ⟨u1, u2, u3, u4, u5, u6, u7⟩ := upgo_ok L (k := k) _ k ws (Nat.le_refl _) hk hS .refl ⟨fun c hc hcl hck _ hcp => h c hc hcl (by omega), fun c _ _ _ hk => by omega⟩
  have u1' : (upgo lt k ws).1 < (upgo lt k ws).2.length := by omega
  have key := siftdn_ok L (k := k) hx _ (upgo lt k ws).1 ((upgo lt k ws).2.set (upgo lt k ws).1 (gv ws k)) (Nat.le_refl _) (by simpa using u1') (fun v hv => by
    rcases List.mem_or_eq_of_mem_set hv with hv | rfl
    · exact u3 v hv
    · exact hx) u4 ⟨fun c hc hcl hck hcc hcp => by
      rw [List.length_set] at hcl
      rw [gv_set _ _ u1', gv_set _ _ u1', if_neg hcc, if_neg hcp]
      exact u5.p1 c hc hcl hck hcc hcp, fun c hc hcl hcp _ => by rw [List.length_set] at hcl; omega⟩ (fun c hc hcl hcp => by rw [List.length_set] at hcl; omega)
  refine ⟨key.1, key.2.trans ?_⟩
  rw [List.set_set]
  refine (u7 _).trans ?_
  rw [set_self hk]
theorem heapGo_ok (L : LO lt S) : ∀ (k : Nat) (ws : List V), k ≤ ws.length → (∀ v ∈ ws, S v) → HP lt k ws → HP lt 0 (heapGo lt k ws) ∧ (heapGo lt k ws).Perm ws
  | 0, ws, _, _, h => ⟨h, .refl _⟩
  | k + 1, ws, hk, hS, h => by
    obtain ⟨s1, s2⟩ := siftup_ok L (show k < ws.length by omega) hS h
    obtain ⟨i1, i2⟩ := heapGo_ok L k (siftup lt k ws) (by rw [s2.length_eq]; omega) (fun v hv => hS v (s2.mem_iff.mp hv)) s1
    exact ⟨i1, i2.trans s2⟩
theorem heapify_ok (L : LO lt S) {ws : List V} (hS : ∀ v ∈ ws, S v) : HP lt 0 (heapGo lt (ws.length / 2) ws) ∧ (heapGo lt (ws.length / 2) ws).Perm ws :=
  heapGo_ok L _ ws (by omega) hS fun c hc hcl hck => by omega
theorem root_min (L : LO lt S) {ws : List V} (hS : ∀ v ∈ ws, S v) (h : HP lt 0 ws) (hirr : ∀ v, S v → lt v v = false) : ∀ i, i < ws.length → lt (gv ws i) (gv ws 0) = false := by
  intro i
  induction i using Nat.strongRecOn with
  | ind i ih =>
    intro hi
    by_cases h0 : i = 0
    · subst h0; exact hirr _ (hS _ (gv_mem hi))
    · have := ih ((i - 1) / 2) (by omega) (by omega)
      exact L.letr _ _ _ (hS _ (gv_mem (by omega))) (hS _ (gv_mem (by omega))) (hS _ (gv_mem hi)) this (h i (by omega) hi (by omega))
theorem root_min' (L : LO lt S) {x : V} {ws : List V} (hS : ∀ v ∈ x :: ws, S v) (h : HP lt 0 (x :: ws)) (hirr : ∀ v, S v → lt v v = false) : ∀ v ∈ x :: ws, lt v x = false := by
  intro v hv
  obtain ⟨i, hi, e⟩ := List.getElem_of_mem hv
  have := root_min L hS h hirr i hi
  have e' : gv (x :: ws) i = v := by
    unfold gv; rw [List.getD_eq_getElem?_getD, List.getElem?_eq_getElem hi, e]; rfl
  rw [e'] at this
  exact this
theorem replace_ok (L : LO lt S) {x y : V} {ws : List V} (hS : ∀ v ∈ x :: ws, S v) (hy : S y) (h : HP lt 0 (x :: ws)) : HP lt 0 (siftup lt 0 (y :: ws)) ∧ (siftup lt 0 (y :: ws)).Perm (y :: ws) := by
  refine siftup_ok L (by simp) (fun v hv => ?_) fun c hc hcl hck => ?_
  · rcases List.mem_cons.mp hv with rfl | hv
    · exact hy
    · exact hS v (.tail _ hv)
  · obtain ⟨c, rfl⟩ : ∃ c', c = c' + 1 := ⟨c - 1, by omega⟩
    obtain ⟨d, hd⟩ : ∃ d, (c + 1 - 1) / 2 = d + 1 := ⟨(c + 1 - 1) / 2 - 1, by omega⟩
    have := h (c + 1) hc hcl (by omega)
    rw [hd] at this ⊢
    exact this
theorem pop_ok (L : LO lt S) {last : V} {vs : List V} (hS : ∀ v ∈ vs ++ [last], S v) (h : HP lt 0 (vs ++ [last])) : HP lt 0 (popH lt vs last).2 ∧ ((popH lt vs last).1 :: (popH lt vs last).2).Perm (vs ++ [last]) ∧ some (popH lt vs last).1 = (vs ++ [last])[0]? := by
  cases vs with
  | nil => exact ⟨fun c _ hc _ => by simp [popH] at hc, .refl _, rfl⟩
  | cons v0 r =>
    have := siftup_ok L (lt := lt) (S := S) (k := 0) (ws := last :: r) (by simp) (fun v hv => by
      rcases List.mem_cons.mp hv with rfl | hv
      · exact hS v (by simp)
      · exact hS v (by simp [hv])) (fun c hc hcl hck => by
      obtain ⟨c, rfl⟩ : ∃ c', c = c' + 1 := ⟨c - 1, by omega⟩
      obtain ⟨d, hd⟩ : ∃ d, (c + 1 - 1) / 2 = d + 1 := ⟨(c + 1 - 1) / 2 - 1, by omega⟩
      have hcl' : c < r.length := by simpa using hcl
      have := h (c + 1) hc (by simp; omega) (by omega)
      rw [hd] at this ⊢
      have e : ∀ i, i < r.length → gv (v0 :: r ++ [last]) (i + 1) = gv (last :: r) (i + 1) := fun i hi => by
        unfold gv
        simp only [List.getD_eq_getElem?_getD, List.cons_append, List.getElem?_cons_succ]
        rw [List.getElem?_append_left hi]
      rw [e c hcl', e d (by omega)] at this
      exact this)
    refine ⟨this.1, ?_, rfl⟩
    refine (this.2.cons v0).trans ?_
    exact (List.Perm.cons v0 (List.perm_append_comm (l₁ := [last]) (l₂ := r)))
end
section
open PySem PySem.Spec PySem.Calls PyProof.Rows PySem.P

noncomputable def iV (l : List Nat) : List V := l.map fun (n : Nat) => V.int (n : Int)
noncomputable def ltI : V → V → Bool
  | .int a, .int b => decide (a < b)
  | _, _ => false
noncomputable def IsI (v : V) : Prop := ∃ n : Nat, v = .int (n : Int)
theorem ltI_ok (T : TI) : ∀ v w, IsI v → IsI w → LtOk T v w (ltI v w) := by
  rintro _ _ ⟨n, rfl⟩ ⟨m, rfl⟩ A k C K rm hK
  exact O_lt hK
theorem LO_I : LO ltI IsI := by
  refine ⟨?_, ?_⟩
  · rintro _ _ ⟨a, rfl⟩ ⟨b, rfl⟩ h
    have h' : (a : Int) < b := of_decide_eq_true h
    exact decide_eq_false (by omega)
  · rintro _ _ _ ⟨a, rfl⟩ ⟨b, rfl⟩ ⟨c, rfl⟩ h1 h2
    have h1' : ¬ (b : Int) < a := of_decide_eq_false h1
    have h2' : ¬ (c : Int) < b := of_decide_eq_false h2
    exact decide_eq_false (by omega)
theorem irr_I : ∀ v, IsI v → ltI v v = false := by
  rintro _ ⟨a, rfl⟩
  exact decide_eq_false (by omega)
theorem iV_all {l : List Nat} : ∀ v ∈ iV l, IsI v := fun v hv => by
  obtain ⟨n, _, rfl⟩ := List.mem_map.mp hv
  exact ⟨n, rfl⟩
theorem iV_perm {a b : List Nat} (p : a.Perm b) : (iV a).Perm (iV b) := p.map _
theorem heap_root {vs : List V} {a : Nat} {r : List Nat} (h : HP ltI 0 vs) (p : vs.Perm (iV (a :: r))) (le : ∀ y ∈ r, a ≤ y) : ∃ tl, vs = .int (a : Int) :: tl ∧ tl.Perm (iV r) := by
  have hall : ∀ v ∈ vs, IsI v := fun v hv => iV_all v (p.mem_iff.mp hv)
  cases vs with
  | nil => have := p.length_eq; simp [iV] at this
  | cons v tl =>
    obtain ⟨n, rfl⟩ := hall v (.head _)
    have h1 : ¬ (a : Int) < n := of_decide_eq_false (root_min' LO_I hall h irr_I (.int a) (p.mem_iff.mpr (.head _)))
    have h2 : a ≤ n := by
      rcases List.mem_cons.mp (p.mem_iff.mp (.head _)) with e | hm
      · injection e with e; omega
      · obtain ⟨y, hy, e⟩ := List.mem_map.mp hm
        injection e with e
        have := le y hy
        omega
    have e : n = a := by omega
    subst e
    exact ⟨tl, rfl, p.cons_inv⟩
noncomputable def hsE : Nat → List Nat → List Nat
  | n + 1, a :: b :: r => hsE n (ins (a + b) r)
  | _, l => l
variable {T : TI} {A : Around}
theorem by_heap_call (tq : Tq T) {k : Nat} {l sl : List Nat} {n : Nat} {h a : Addr} {pm cd : Value} (d : DefAt T a (fdOf (sn "_law_by_heap") pm cd (stAt Pr 12)) (fdB (stAt Pr 12))) (rm : Rm A (k + 10)) (hl : l.length = n + 1) (h60 : n ≤ 60) (hp : sl.Perm l) (hs' : sl.Pairwise (· ≤ ·)) :
    Call T A [(h, .list (iV l))] (.ref a) [.ref h] (fun v C' => ∃ td vs, v = .ref td ∧ vs.Perm (iV (hsE n sl)) ∧ C' = [(td, .list (iV (hs n sl))), (h, .list vs)]) := by
  obtain ⟨aH, pmH, cdH, hgH, dH⟩ := tq.heapify
  obtain ⟨aP, pmP, cdP, hgP, dP⟩ := tq.heappop
  obtain ⟨aR, pmR, cdR, hgR, dR⟩ := tq.heapreplace
  refine Call_def (n := k + 9) (names := [sn "heap"]) (ℓ₀ := [(sn "heap", .ref h)]) d rm (fun xs hxs => ?_) (by simp) rfl (no_cell (by kernel_rfl)) (all_local (by kernel_rfl)) (fun L => ?_)
  · obtain ⟨x, rfl⟩ := len1 hxs
    kernel_rfl
  have rm' := rm.deeper (callEnv (fdOf (sn "_law_by_heap") pm cd (stAt Pr 12)) L a)
  generalize A.deeper (callEnv (fdOf (sn "_law_by_heap") pm cd (stAt Pr 12)) L a) = A' at rm' ⊢
  have hlV : (iV l).length = n + 1 := by rw [iV, List.length_map, hl]
  refine Exs_cons ?_
  refine Ex_expr ?_
  refine Ev_call ?_
  refine Ev_glob hgH tq.ng ?_
  refine ⟨_, rfl, ?_⟩
  repeat walk_at "ev"
  refine ⟨dH.callee _, Call.at (i := 1) (heapify_call tq (n := k) (lt := ltI) (S := IsI) dH (ltI_ok T) iV_all (by omega) (rm'.le (Nat.add_le_add_left (by decide) k))) rfl ?_⟩
  rintro _ _ ⟨rfl, rfl⟩
  refine ⟨_, rfl, _, rfl, rfl, ?_⟩
  obtain ⟨hHP, hHp⟩ := heapify_ok LO_I (iV_all (l := l))
  have hvs : (heapGo ltI ((iV l).length / 2) (iV l)).Perm (iV sl) := hHp.trans (iV_perm hp.symm)
  have hvl : (heapGo ltI ((iV l).length / 2) (iV l)).length = n + 1 := hHp.length_eq.trans hlV
  generalize heapGo ltI ((iV l).length / 2) (iV l) = vs at *
  clear hHp hlV
  refine Exs_cons ?_
  refine Ex_assign ?_
  refine Ev_list ?_
  refine Evs_nil ?_
  refine ⟨by simp, fun td => ?_⟩
  apply exu
  case u => walk_at "up"
  refine Exs_cons ?_
  refine Ex_for ?_
  refine Ev_call ?_
  refine Ev_builtin (v := .ty "range") tq.range tq.ng tq.nb (fun _ => rfl) ?_
  refine ⟨_, rfl, ?_⟩
  refine Evs_cons ?_
  refine Ev_binop ?_
  refine Ev_call ?_
  refine Ev_builtin (v := .bi "len") tq.len tq.ng tq.nb (fun _ => rfl) ?_
  refine ⟨_, rfl, ?_⟩
  repeat walk_at "ev"
  refine ⟨.inl ⟨_, rfl⟩, Call_len (i := 2) rfl (by omega) ?_⟩
  repeat walk_at "ev"
  rw [show ((vs.length : Int) - 1) = (n : Int) by omega]
  refine ⟨.inr (.inl ⟨_, rfl⟩), Call.swap (Call_range fun rg => ⟨_, _, rfl, ?_⟩)⟩
  refine Itr.swap (Itr_rngN (j := 1) (p := 0) (q := n) (n := n) rfl rfl rfl (by decide) (Nat.le_trans h60 (by decide)) (Nat.zero_add n).symm fun it => ⟨_, _, rfl, ?_⟩)
  have hslen : sl.length = n + 1 := hp.length_eq.trans hl
  refine Fo_ind (ι := Nat × List V × List Nat × List Nat) (fun i ℓ H => ℓ = [(sn "heap", .ref h), (sn "told", .ref td)] ∧ i.1 ≤ n ∧ i.2.1.Perm (iV i.2.2.1) ∧ HP ltI 0 i.2.1 ∧ i.2.2.1.Pairwise (· ≤ ·) ∧ i.2.2.1.length = i.1 + 1 ∧ i.2.2.2 ++ hs i.1 i.2.2.1 = hs n sl ∧ i.2.2.2.length ≤ n - i.1 ∧ hsE i.1 i.2.2.1 = hsE n sl ∧
    H = [(it, .rit ((n - i.1 : Nat) : Int) (i.1 : Int) 1), (rg, .rng 0 n 1), (td, .list (iV i.2.2.2)), (h, .list i.2.1)]) (fun i => i.1) ?_ (n, vs, sl, []) ⟨rfl, Nat.le_refl _, hvs, hHP, hs', hslen, rfl, by simp, rfl, by rw [Nat.sub_self]; rfl⟩
  clear hvs hHP hvl hslen hs' hp hl
  rintro ⟨m, vs, sl', td'⟩ ℓ H ⟨rfl, hm, hvs, hHP, hs', hslen, htold, htl, hE, rfl⟩ ih
  dsimp only at hm hvs hHP hs' hslen htold htl hE ih ⊢
  refine Fo_step ?_
  cases m with
  | zero =>
    refine Nt_range_end (i := 1) rm' rfl (by omega) ⟨_, rfl, ?_⟩
    refine Exs_nil ?_
    refine Exs_cons ?_
    refine Ex_return ?_
    repeat walk_at "ev"
    refine ⟨[(td, .list (iV td')), (h, .list vs)], (List.sublist_cons_self _ _), td, vs, rfl, ?_, ?_⟩
    · rw [← hE]; exact hvs
    · have : td' = hs n sl := by rw [← htold]; simp [hs]
      rw [this]
  | succ m =>
    obtain ⟨x, y, r, rfl, hr⟩ := two_of hslen
    obtain ⟨hx1, hx2⟩ := List.pairwise_cons.mp hs'
    obtain ⟨hy1, hy2⟩ := List.pairwise_cons.mp hx2
    have hvl : vs.length = m + 1 + 1 := by rw [hvs.length_eq, iV, List.length_map, hslen]
    obtain ⟨ws, last, hvw⟩ : ∃ ws last, vs = ws ++ [last] := ⟨vs.dropLast, vs.getLast (by intro e; rw [e] at hvl; simp at hvl), (List.dropLast_concat_getLast _).symm⟩
    have hIs : ∀ v ∈ vs, IsI v := fun v hv => iV_all v (hvs.mem_iff.mp hv)
    obtain ⟨tl, htl0, _⟩ := heap_root hHP hvs hx1
    have hIs' := hIs
    rw [hvw] at hIs' hHP
    obtain ⟨p1, p2, p3⟩ := pop_ok LO_I hIs' hHP
    rw [← hvw, htl0] at p3
    have p4 : (popH ltI ws last).1 = .int (x : Int) := by simpa using p3
    rw [← hvw, p4] at p2
    have p5 : (popH ltI ws last).2.Perm (iV (y :: r)) := (p2.trans hvs).cons_inv
    obtain ⟨tl2, ht2, hp2⟩ := heap_root p1 p5 hy1
    have p1' := p1
    rw [ht2] at p1'
    have hI2 : ∀ v ∈ V.int (y : Int) :: tl2, IsI v := fun v hv => iV_all v (p5.mem_iff.mp (by rw [ht2]; exact hv))
    obtain ⟨q1, q2⟩ := replace_ok LO_I (x := .int (y : Int)) (y := .int ((x + y : Nat) : Int)) (ws := tl2) hI2 ⟨_, rfl⟩ p1'
    have hws : ws.length ≤ 900 := by rw [hvw] at hvl; simp at hvl; exact Nat.le_trans (Nat.le_of_eq hvl) (Nat.le_trans hm (Nat.le_trans h60 (by decide)))
    have htl2 : tl2.length ≤ 900 := by
      have := p5.length_eq; rw [ht2] at this; simp [iV] at this; exact Nat.le_trans (Nat.le_of_eq (this.trans hr)) (Nat.le_trans (Nat.le_of_succ_le hm) (Nat.le_trans h60 (by decide)))
    refine Nt_range (i := 1) rfl (zpos' m) ⟨_, rfl, ?_⟩
    refine Asn_name ?_
    apply exu
    case u => walk_at "up"
    rw [hvw]
    refine Exs_cons ?_
    refine Ex_assign ?_
    refine Ev_call ?_
    refine Ev_glob hgP tq.ng ?_
    refine ⟨_, rfl, ?_⟩
    repeat walk_at "ev"
    refine ⟨dP.callee _, Call.at (i := 4) (heappop_call tq.toTp (n := k) (lt := ltI) (S := IsI) (vs := ws) (last := last) dP (ltI_ok T) (fun v hv => hIs' v (List.mem_append_left _ hv)) (hIs' last (List.mem_append_right _ (.head _))) hws (rm'.le (Nat.add_le_add_left (by decide) k))) rfl ?_⟩
    rintro _ _ ⟨rfl, rfl⟩
    refine ⟨_, rfl, _, rfl, ?_⟩
    rw [p4, ht2]
    apply exu
    case u => walk_at "up"
    refine Exs_cons ?_
    refine Ex_assign ?_
    refine Ev_call ?_
    refine Ev_glob hgR tq.ng ?_
    refine ⟨_, rfl, ?_⟩
    repeat walk_at "ev"
    refine O_item (i := 4) (v := .int (y : Int)) rfl (by omega) (by omega) rfl ?_
    repeat walk_at "ev"
    rw [show ((x : Int) + (y : Int)) = ((x + y : Nat) : Int) from rfl]
    refine ⟨dR.callee _, Call.at (i := 4) (heapreplace_call tq.toTp (n := k) (lt := ltI) (S := IsI) (vs := tl2) (v0 := .int (y : Int)) (x := .int ((x + y : Nat) : Int)) dR (ltI_ok T) (fun v hv => hI2 v (.tail _ hv)) ⟨_, rfl⟩ htl2 (rm'.le (Nat.add_le_add_left (by decide) k))) rfl ?_⟩
    rintro _ _ ⟨rfl, rfl⟩
    refine ⟨_, rfl, _, rfl, ?_⟩
    apply exu
    case u => walk_at "up"
    refine Exs_cons ?_
    refine Ex_expr ?_
    refine Ev_method ?_
    repeat walk_at "ev"
    refine ⟨_, GM_list (i := 3) rfl PySem.F.slot_list_append PySem.F.type_list_append, .inl ⟨_, rfl⟩, ?_⟩
    repeat walk_at "ev"
    refine ⟨.inl ⟨_, rfl⟩, Call_append (i := 3) rfl (by simp [iV]; exact tl6 htl h60) ?_⟩
    refine ⟨_, rfl, rfl, ?_⟩
    refine Exs_nil ?_
    refine Fo.forget (ℓ' := [(sn "heap", .ref h), (sn "told", .ref td)]) (Sub_cons (Sub_cons Sub_nil)) ?_
    refine ih (m, siftup ltI 0 (.int ((x + y : Nat) : Int) :: tl2), ins (x + y) r, td' ++ [x + y]) _ _ (by simp) ⟨rfl, Nat.le_of_succ_le hm, ?_, q1, ins_sorted _ _ hy2, by rw [ins_len, hr], ?_, Nat.le_trans (Nat.le_of_eq List.length_append) (ltd hm htl), hE, ?_⟩
    · refine q2.trans ((hp2.cons _).trans ?_)
      exact (iV_perm (ins_perm (x + y) r)).symm
    · show (td' ++ [x + y]) ++ hs m (ins (x + y) r) = hs n sl
      rw [← htold, List.append_assoc]; rfl
    · have e1 : ((n - (m + 1) : Nat) : Int) + 1 = ((n - m : Nat) : Int) := zup hm
      have e2 : ((m + 1 : Nat) : Int) - 1 = (m : Int) := zsucc m
      have e3 : iV (td' ++ [x + y]) = iV td' ++ [.int ((x : Int) + (y : Int))] := by
        rw [iV, List.map_append, List.map_singleton, Int.natCast_add]; rfl
      simp only [e3]
      rw [← e1, ← e2]
      rfl
end
section
open PySem PySem.Spec PySem.Calls PyProof.Rows PySem.P

noncomputable def forB : Stmt → List Stmt
  | .For _ _ body _ _ => body
  | _ => []
noncomputable abbrev pss : Stmt := .Pass ⟨0, 0, 0, 0⟩
noncomputable abbrev blOut : List Stmt := forB ((fdB (stAt Pr 11)).getD 2 pss)
noncomputable abbrev blIn : List Stmt := forB (blOut.getD 1 pss)
noncomputable def fw : List Nat → List Nat
  | [] => []
  | a :: _ => dg a
noncomputable def wV (l : List Nat) : List V := l.map fun b => V.str (S (dg b))
/-- what the lexer tells, word for word -/
inductive LxS (nf : Int) : Int → List Nat → List (List Nat) → Prop
  | fin {n : Int} {r : List Nat} (h : lexT n r = ([], nf, [])) : LxS nf n r []
  | cons {n n' : Int} {r r' w : List Nat} {ws : List (List Nat)} (h : lexT n r = (w, n', r')) (hw : w ≠ []) (t : LxS nf n' r' ws) : LxS nf n r (w :: ws)
noncomputable def LSt (nf : Int) (A : List Nat) (n : Int) (r : List Nat) : Prop := match A with
  | [] => n = nf ∧ r = []
  | _ :: A' => LxS nf n r (A'.map dg)
theorem dg_ne (n : Nat) : dg n ≠ [] := by
  unfold dg
  intro e
  have := List.map_eq_nil_iff.mp e
  exact Nat.toDigits_ne_nil this
noncomputable def mc (Cl c' : Addr) (m : MA) (n : Int) (r : List Nat) (vs : List V) : Cs := rd Cl c' m n r ++ [(m.pb, .list vs)]
variable {T : TI} {A : Around} {Cl N : Addr} {mN : Str → Option Value}
theorem O_neS {C : Cs} {a b : List Nat} {K} (h : K (.bool (a != b)) C) : OpC T A C .NotEq (.str (S a)) (.str (S b)) K := O_nes (by
  have : (S a != S b) = (a != b) := by unfold bne; rw [S_beq]
  rw [this]; exact h)
noncomputable abbrev blE (pm cd : Value) (L a : Addr) : Env := callEnv (fdOf (sn "_law_by_lines") pm cd (stAt Pr 11)) L a
/-- x.get_token() upon a lexer of the ledger -/
theorem ev_tok (tq : Tq T) (tc : Tc T Cl N mN) {k : Nat} {c' L a : Addr} {pm cd : Value} {p1 p2 p3 : Pos} {x : Str} {X R M : Cs} {m : MA} {n : Int} {r : List Nat} {vs : List V} {ℓ : Lo} {K : V → Cs → Prop} {pl : Sem Bool} {i : Nat}
    (rm : Rm A (k + 8)) (hx : ℓ.lookup x = some (.ref m.x)) (hi : (X ++ (T.tb, Cell.tab1 c' tpos rdQ) :: M)[i]? = some (m.x, .inst Cl m.d (lexA n (.ref m.t) m.pb))) (hM : M.Perm (mc Cl c' m n r vs ++ R)) (hr : r.length ≤ 100000) (hv : vs.length ≤ 1000)
    (h0 : vs = [] → ∃ M', (mc Cl c' m (lexT n r).2.1 (lexT n r).2.2 [] ++ R).Perm M' ∧ K (.str (S (lexT n r).1)) (X ++ (T.tb, Cell.tab1 c' tpos rdQ) :: M'))
    (h1 : ∀ v vs', vs = v :: vs' → ∃ M', (mc Cl c' m n r vs' ++ R).Perm M' ∧ K v (X ++ (T.tb, Cell.tab1 c' tpos rdQ) :: M'))
    (he : eval (.Call (.Attribute (.Name x p1) (sn "get_token") p2) [] [] p3) (blE pm cd L a) = (do
      let ov ← eval (.Name x p1) (blE pm cd L a)
      standAt p2.atName
      let (f, first) ← holding [ov] (getMethod ov (sn "get_token") pl)
      callWith p3 f first (backTo p3 (starEach [] (blE pm cd L a))) (backToKw p3 (keywordEach [] (blE pm cd L a)))) := by rfl)
    (hd : (x == ("__debug__" : Str)) = false := by decide +kernel) :
    Ev T A (blE pm cd L a) ℓ (X ++ (T.tb, Cell.tab1 c' tpos rdQ) :: M) (.Call (.Attribute (.Name x p1) (sn "get_token") p2) [] [] p3) K := by
  obtain ⟨aT, oT, pmT, cdT, hmT, hoT, hocT, hfdT, dT⟩ := tc.token
  refine Ev_method (pl := pl) ?_ he
  refine Ev_name hx ?_ rfl hd
  refine ⟨_, GM_inst (i := i + 1) (y := none) tc.cls (by simpa using hi) hmT hoT dT.ne hocT o_token lexA_no2, .inr (.inr ⟨_, rfl⟩), ?_⟩
  refine Evs_nil ?_
  refine ⟨dT.callee _, ?_⟩
  cases vs with
  | nil =>
    refine Call.framed (token_call tq tc (k := k) (m := m) (n := n) (rest := r) dT rm hr) (perm_tok (A := lc _ ℓ :: X) (X := rd Cl c' m n r) hM) ?_
    obtain ⟨M', pM, hK⟩ := h0 rfl
    rintro _ _ ⟨rfl, rfl⟩
    exact ⟨_, perm_tok' (X := rd Cl c' m (lexT n r).2.1 (lexT n r).2.2) pM, _, rfl, hK⟩
  | cons v vs =>
    refine Call.framed (token_pop tc (k := k) (m := m) (n := n) (rest := r) (v := v) (vs := vs) dT rm (by simp at hv; omega)) (perm_tok (A := lc _ ℓ :: X) (X := rd Cl c' m n r) hM) ?_
    obtain ⟨M', pM, hK⟩ := h1 v vs rfl
    rintro _ _ ⟨rfl, rfl⟩
    exact ⟨_, perm_tok' (X := rd Cl c' m n r) pM, _, rfl, hK⟩
end
section
open PySem PySem.Spec PySem.Calls PyProof.Rows PySem.P
theorem lexQ_len : ∀ (k : Nat) (tok : List Nat) (n : Int) (r : List Nat), r.length ≤ k → (lexQ tok n r).2.2.length ≤ r.length
  | 0, tok, n, r, h => by
    have : r = [] := List.length_eq_zero_iff.mp (by omega)
    subst this; rw [lexQ_nil]; simp
  | k + 1, tok, n, [], h => by rw [lexQ_nil]; simp
  | k + 1, tok, n, c :: r, h => by
    rw [lexQ_cons]
    simp only [List.length_cons] at h
    split
    · simp
    · split
      · cases r with
        | nil => simp
        | cons e r' =>
          have := lexQ_len k (tok ++ [e]) (n + nl e) r' (by simp at h; omega)
          simp only [List.length_cons]; omega
      · have := lexQ_len k (tok ++ [c]) (n + nl c) r (by omega)
        simp only [List.length_cons]; omega
theorem lexW_len : ∀ (k : Nat) (tok : List Nat) (n : Int) (r : List Nat), r.length ≤ k → (lexW tok n r).2.2.length ≤ r.length
  | 0, tok, n, r, h => by
    have : r = [] := List.length_eq_zero_iff.mp (by omega)
    subst this; rw [lexW_nil]; simp
  | k + 1, tok, n, [], h => by rw [lexW_nil]; simp
  | k + 1, tok, n, c :: r, h => by
    rw [lexW_cons]
    simp only [List.length_cons] at h
    split
    · simp
    · split
      · cases r with
        | nil => simp
        | cons e r' =>
          have := lexW_len k (tok ++ [e]) (n + nl e) r' (by simp at h; omega)
          simp only [List.length_cons]; omega
      · have := lexW_len k (tok ++ [c]) (n + nl c) r (by omega)
        simp only [List.length_cons]; omega
theorem lexT_len : ∀ (n : Int) (r : List Nat), (lexT n r).2.2.length ≤ r.length
  | n, [] => by simp [lexT]
  | n, c :: r => by
    rw [lexT_cons]
    simp only [List.length_cons]
    split
    · have := lexT_len (n + nl c) r; omega
    · split
      · have := lexQ_len _ [] n r (Nat.le_refl _); omega
      · split
        · cases r with
          | nil => simp
          | cons e r' =>
            have := lexW_len _ [e] (n + nl e) r' (Nat.le_refl _)
            simp only [List.length_cons]; omega
        · have := lexW_len _ [c] (n + nl c) r (Nat.le_refl _); omega
end
section
open PySem PySem.Spec PySem.Calls PyProof.Rows PySem.P

noncomputable def ifA : Stmt → List Stmt
  | .If _ a _ _ => a
  | _ => []
noncomputable def ifB : Stmt → List Stmt
  | .If _ _ b _ => b
  | _ => []
variable {T : TI} {A : Around} {Cl N : Addr} {mN : Str → Option Value}
noncomputable abbrev blL (x1 x2 fr td : Addr) (tn : Int) (tv hv : V) (tot : Nat) : Lo := [(sn "leaves", .ref x1), (sn "sums", .ref x2), (sn "turns", .int tn), (sn "fronts", .ref fr), (sn "told", .ref td), (sn "turn", tv), (sn "total", .int (tot : Int)), (sn "hand", hv)]
noncomputable abbrev blH (T : TI) (Cl c' : Addr) (p1 p2 p3 p4 p5 : Addr × Cell) (fr : Addr) (m1 m2 : MA) (As Bs : List Nat) (n : Int) (r : List Nat) : Cs :=
  p1 :: p2 :: p3 :: p4 :: p5 :: (fr, .list [.str (S (fw As)), .str (S (fw Bs))]) :: (T.tb, .tab1 c' tpos rdQ) :: (mc Cl c' m1 n r [] ++ mc Cl c' m2 1 [] (wV Bs.tail))
theorem LSt_next {nf n : Int} {r : List Nat} {a : Nat} {As : List Nat} (h : LSt nf (a :: As) n r) : (lexT n r).1 = fw As ∧ LSt nf As (lexT n r).2.1 (lexT n r).2.2 := by
  cases As with
  | nil =>
    have h' : LxS nf n r [] := h
    cases h' with
    | fin e => rw [e]; exact ⟨rfl, rfl, rfl⟩
  | cons b As =>
    have h' : LxS nf n r (dg b :: As.map dg) := h
    cases h' with
    | cons e hw t => rw [e]; exact ⟨rfl, t⟩
theorem take_leaf (tq : Tq T) (tc : Tc T Cl N mN) (hint : BuiltIs T (sn "int") (.type "int")) {k : Nat} {c' L a fr td : Addr} {pm cd : Value} {p1 p2 p3 p4 p5 : Addr × Cell} {m1 m2 : MA} {x : Nat} {As Bs : List Nat} {n nf : Int} {r : List Nat} {tn : Int} {tv hv : V} {tot : Nat} {K}
    (rm : Rm A (k + 8)) (hx : x < 100000) (hL : LSt nf (x :: As) n r) (hr : r.length ≤ 100000)
    (h : ∀ n' r', LSt nf As n' r' → r'.length ≤ 100000 → K .next (blL m1.x m2.x fr td tn tv hv (tot + x)) (blH T Cl c' p1 p2 p3 p4 p5 fr m1 m2 As Bs n' r')) :
    Exs T A (blE pm cd L a) (blL m1.x m2.x fr td tn tv hv tot) (blH T Cl c' p1 p2 p3 p4 p5 fr m1 m2 (x :: As) Bs n r) (ifA (blIn.getD 0 pss)) K := by
  obtain ⟨e1, e2⟩ := LSt_next hL
  refine Exs_cons ?_
  refine Ex_aug (v := .int (tot : Int)) (by walk_at "lk") ?_
  refine Ev_call ?_
  refine Ev_builtin (v := .ty "int") hint tq.ng tq.nb (fun _ => rfl) ?_
  refine ⟨_, rfl, ?_⟩
  repeat walk_at "ev"
  refine O_item (i := 6) (v := .str (S (dg x))) rfl (by omega) (by omega) rfl ?_
  repeat walk_at "ev"
  refine ⟨.inr (.inl ⟨_, rfl⟩), Call_intS (n := x) (by omega) ?_⟩
  repeat walk_at "ev"
  refine ev_tok tq tc (k := k) (X := [p1, p2, p3, p4, p5, (fr, _)]) (i := 7) (m := m1) (n := n) (r := r) (vs := []) (R := mc Cl c' m2 1 [] (wV Bs.tail)) rm (by walk_at "lk") rfl (List.Perm.refl _) hr (by simp) (fun _ => ⟨_, List.Perm.refl _, ?_⟩) (fun v vs' e => nomatch e)
  rw [e1]
  repeat walk_at "ev"
  refine ⟨fr, 5, _, 0, rfl, rfl, rfl, by omega, by simp, by simp, ?_⟩
  refine Exs_nil ?_
  have := h _ _ e2 (Nat.le_trans (lexT_len n r) hr)
  rw [show ((tot : Int) + (x : Int)) = ((tot + x : Nat) : Int) by omega]
  exact this
theorem take_sum (tq : Tq T) (tc : Tc T Cl N mN) (hint : BuiltIs T (sn "int") (.type "int")) {k : Nat} {c' L a fr td : Addr} {pm cd : Value} {p1 p2 p3 p4 p5 : Addr × Cell} {m1 m2 : MA} {x : Nat} {As Bs : List Nat} {n : Int} {r : List Nat} {tn : Int} {tv hv : V} {tot : Nat} {K}
    (rm : Rm A (k + 8)) (hx : x < 100000) (hB : Bs.length ≤ 500)
    (h : K .next (blL m1.x m2.x fr td tn tv hv (tot + x)) (blH T Cl c' p1 p2 p3 p4 p5 fr m1 m2 As Bs n r)) :
    Exs T A (blE pm cd L a) (blL m1.x m2.x fr td tn tv hv tot) (blH T Cl c' p1 p2 p3 p4 p5 fr m1 m2 As (x :: Bs) n r) (ifB (blIn.getD 0 pss)) K := by
  refine Exs_cons ?_
  refine Ex_aug (v := .int (tot : Int)) (by walk_at "lk") ?_
  refine Ev_call ?_
  refine Ev_builtin (v := .ty "int") hint tq.ng tq.nb (fun _ => rfl) ?_
  refine ⟨_, rfl, ?_⟩
  repeat walk_at "ev"
  refine O_item (i := 6) (v := .str (S (dg x))) rfl (by omega) (by omega) rfl ?_
  repeat walk_at "ev"
  refine ⟨.inr (.inl ⟨_, rfl⟩), Call_intS (n := x) (by omega) ?_⟩
  repeat walk_at "ev"
  rw [show ((tot : Int) + (x : Int)) = ((tot + x : Nat) : Int) by omega]
  refine ev_tok tq tc (k := k) (X := [p1, p2, p3, p4, p5, (fr, _)]) (i := 12) (m := m2) (n := 1) (r := []) (vs := wV Bs) (R := mc Cl c' m1 n r []) rm (by walk_at "lk") rfl List.perm_append_comm (by simp) (by simp [wV]; omega) (fun e => ⟨_, List.perm_append_comm, ?_⟩) (fun v vs' e => ⟨_, List.perm_append_comm, ?_⟩)
  · have eB : Bs = [] := by
      unfold wV at e
      exact List.map_eq_nil_iff.mp e
    subst eB
    repeat walk_at "ev"
    refine ⟨fr, 5, _, 1, rfl, rfl, rfl, by omega, by simp, by simp, ?_⟩
    refine Exs_nil ?_
    exact h
  · obtain ⟨b, Bs', rfl⟩ : ∃ b Bs', Bs = b :: Bs' := by
      cases Bs with
      | nil => cases e
      | cons b Bs' => exact ⟨b, Bs', rfl⟩
    injection e with e1 e2
    subst e1 e2
    repeat walk_at "ev"
    refine ⟨fr, 5, _, 1, rfl, rfl, rfl, by omega, by simp, by simp, ?_⟩
    refine Exs_nil ?_
    exact h
theorem hand_body (tq : Tq T) (tc : Tc T Cl N mN) (hint : BuiltIs T (sn "int") (.type "int")) {k : Nat} {c' L a fr td : Addr} {pm cd : Value} {p1 p2 p3 p4 p5 : Addr × Cell} {m1 m2 : MA} {x : Nat} {As Bs As' Bs' : List Nat} {n nf : Int} {r : List Nat} {tn : Int} {tv hv : V} {tot : Nat} {K}
    (rm : Rm A (k + 8)) (hp : pick As Bs = (x, As', Bs')) (hne : As ++ Bs ≠ []) (hall : ∀ y ∈ As ++ Bs, y < 100000) (hB : Bs.length ≤ 500) (hL : LSt nf As n r) (hr : r.length ≤ 100000)
    (h : ∀ n' r', LSt nf As' n' r' → r'.length ≤ 100000 → K .next (blL m1.x m2.x fr td tn tv hv (tot + x)) (blH T Cl c' p1 p2 p3 p4 p5 fr m1 m2 As' Bs' n' r')) :
    Exs T A (blE pm cd L a) (blL m1.x m2.x fr td tn tv hv tot) (blH T Cl c' p1 p2 p3 p4 p5 fr m1 m2 As Bs n r) blIn K := by
  refine Exs_cons ?_
  refine Ex_if ?_
  refine Tr_or ?_
  refine Tr_compare ?_
  repeat walk_at "ev"
  refine O_item (i := 6) (v := .str (S (fw Bs))) rfl (by omega) (by omega) rfl ?_
  repeat walk_at "ev"
  refine O_eqS (b := []) ?_
  repeat walk_at "ev"
  have cont : ∀ {K : Fl → Lo → Cs → Prop} {ℓ H}, K .next ℓ H → seqK T A (blE pm cd L a) [] K .next ℓ H := fun hK => Exs_nil hK
  cases Bs with
  | nil =>
    obtain ⟨y, As1, rfl⟩ : ∃ y As1, As = y :: As1 := by
      cases As with
      | nil => exact absurd rfl hne
      | cons y As1 => exact ⟨y, As1, rfl⟩
    cases hp
    refine sbT ?_
    refine sbT ?_
    exact take_leaf tq tc hint (k := k) rm (hall _ (.head _)) hL hr fun n' r' h1 h2 => cont (h n' r' h1 h2)
  | cons b Bs1 =>
    have hb : (fw (b :: Bs1) == ([] : List Nat)) = false := by
      show (dg b == []) = false
      simpa using dg_ne b
    rw [hb]
    refine sbF ?_
    refine Tr_and ?_
    refine Tr_compare ?_
    repeat walk_at "ev"
    refine O_item (i := 6) (v := .str (S (fw As))) rfl (by omega) (by omega) rfl ?_
    repeat walk_at "ev"
    refine O_neS (b := []) ?_
    repeat walk_at "ev"
    cases As with
    | nil =>
      cases hp
      refine sbF ?_
      refine sbF ?_
      exact take_sum tq tc hint (k := k) rm (hall _ (.head _)) (by simp at hB; omega) (cont (h _ _ hL hr))
    | cons y As1 =>
      have hy : (fw (y :: As1) != ([] : List Nat)) = true := by
        show (dg y != []) = true
        simpa using dg_ne y
      rw [hy]
      refine sbT ?_
      refine Tr_compare ?_
      refine Ev_call ?_
      refine Ev_builtin (v := .ty "int") hint tq.ng tq.nb (fun _ => rfl) ?_
      refine ⟨_, rfl, ?_⟩
      repeat walk_at "ev"
      refine O_item (i := 6) (v := .str (S (dg y))) rfl (by omega) (by omega) rfl ?_
      repeat walk_at "ev"
      have hy2 := hall y (.head _)
      have hb2 := hall b (List.mem_append_right _ (.head _))
      refine ⟨.inr (.inl ⟨_, rfl⟩), Call_intS (n := y) (by omega) ?_⟩
      refine inI ?_
      refine Ev_call ?_
      refine Ev_builtin (v := .ty "int") hint tq.ng tq.nb (fun _ => rfl) ?_
      refine ⟨_, rfl, ?_⟩
      repeat walk_at "ev"
      refine O_item (i := 6) (v := .str (S (dg b))) rfl (by omega) (by omega) rfl ?_
      repeat walk_at "ev"
      refine ⟨.inr (.inl ⟨_, rfl⟩), Call_intS (n := b) (by omega) ?_⟩
      repeat walk_at "ev"
      refine sb (fun hc => ?_) (fun hc => ?_)
      · have hyb : y ≤ b := by have := of_decide_eq_true hc; omega
        rw [pick, if_pos hyb] at hp
        cases hp
        exact take_leaf tq tc hint (k := k) rm hy2 hL hr fun n' r' h1 h2 => cont (h n' r' h1 h2)
      · have hyb : ¬ y ≤ b := by have := of_decide_eq_false hc; omega
        rw [pick, if_neg hyb] at hp
        cases hp
        exact take_sum tq tc hint (k := k) rm hb2 (by simp at hB; omega) (cont (h _ _ hL hr))
end
section
open PySem PySem.Spec PySem.Calls PyProof.Rows PySem.P

theorem perm_xp {α : Type} {Y Z : List α} {x p : α} : (Y ++ (x :: (Z ++ [p]))).Perm ([x, p] ++ (Y ++ Z)) := by
  refine List.perm_middle.trans (List.Perm.cons x ?_)
  rw [← List.append_assoc]
  exact List.perm_append_comm
theorem mem_le_sum : ∀ {l : List Nat} {x : Nat}, x ∈ l → x ≤ l.sum
  | [], _, h => nomatch h
  | y :: l, x, h => by
    rw [List.sum_cons]
    rcases List.mem_cons.mp h with rfl | h
    · omega
    · have := mem_le_sum h; omega
theorem sum_perm {a b : List Nat} (p : a.Perm b) : a.sum = b.sum := p.sum_nat
theorem o_push : typeLookup (.type "object") (sn "push_token") = pure none := by rw [typeLookup_type, builtinLookup_eq_fast]; kernel_rfl
theorem lexA_no3 {n : Int} {t : V} {pb : Addr} : List.lookup (sn "push_token") (lexA n t pb) = none :=
  lk_no (by decide +kernel) (lk_no (by decide +kernel) (lk_no (by decide +kernel) (lk_no (by decide +kernel) rfl)))
variable {T : TI} {A : Around} {Cl N : Addr} {mN : Str → Option Value}
theorem by_lines_call (tq : Tq T) (tc : Tc T Cl N mN) (hint : BuiltIs T (sn "int") (.type "int")) {k : Nat} {c' a aP : Addr} {oP : Obj} {pm cd pmP cdP : Value} {m1 m2 : MA} {n : Nat} {sl : List Nat} {n0 nf : Int} {r0 : List Nat}
    (hmP : mN (sn "push_token") = some (.ref aP)) (hoP : T.h₁.get? aP = some oP) (hocP : oP.cls = .type "function") (dP : DefAt T aP (fdOf (sn "_netrclex.push_token") pmP cdP (mth 3)) (fdB (mth 3)))
    (d : DefAt T a (fdOf (sn "_law_by_lines") pm cd (stAt Pr 11)) (fdB (stAt Pr 11))) (rm : Rm A (k + 12)) (hsl : sl.length = n + 1) (hn1 : 1 ≤ n) (hn : n ≤ 60) (hs' : sl.Pairwise (· ≤ ·)) (hsum : sl.sum < 100000) (hL : LxS nf n0 r0 (sl.map dg)) (hr : r0.length ≤ 100000) :
    Call T A ((T.tb, .tab1 c' tpos rdQ) :: (mc Cl c' m1 n0 r0 [] ++ mc Cl c' m2 1 [] [])) (.ref a) [.ref m1.x, .ref m2.x, .int n] (fun v C' => ∃ td fr x, v = .tup [.ref td, .ref fr] ∧ hsE n sl = [x] ∧ x < 100000 ∧
      C' = (td, .list (iV (hs n sl))) :: (fr, .list [.str (S []), .str (S (dg x))]) :: (T.tb, .tab1 c' tpos rdQ) :: (mc Cl c' m1 nf [] [] ++ mc Cl c' m2 1 [] [])) := by
  refine Call_def (n := k + 11) (names := [sn "leaves", sn "sums", sn "turns"]) (ℓ₀ := [(sn "leaves", .ref m1.x), (sn "sums", .ref m2.x), (sn "turns", .int (n : Int))]) d rm (fun xs hxs => ?_) (names3 (by decide +kernel) (by decide +kernel) (by decide +kernel)) rfl (no_cell (by kernel_rfl)) (all_local (by kernel_rfl)) (fun L => ?_)
  · obtain ⟨x, y, z, rfl⟩ := len3 hxs
    kernel_rfl
  have rm' := rm.deeper (blE pm cd L a)
  generalize A.deeper (blE pm cd L a) = A' at rm' ⊢
  obtain ⟨s0, sl1, rfl⟩ : ∃ s0 sl1, sl = s0 :: sl1 := by
    cases sl with
    | nil => simp at hsl
    | cons x y => exact ⟨x, y, rfl⟩
  have hfirst : (lexT n0 r0).1 = dg s0 ∧ LSt nf (s0 :: sl1) (lexT n0 r0).2.1 (lexT n0 r0).2.2 := by
    have h' : LxS nf n0 r0 (dg s0 :: sl1.map dg) := hL
    cases h' with
    | cons e hw t => rw [e]; exact ⟨rfl, t⟩
  refine Exs_cons ?_
  refine Ex_assign ?_
  refine Ev_list ?_
  refine Evs_cons ?_
  refine ev_tok tq tc (k := k) (X := []) (i := 1) (m := m1) (n := n0) (r := r0) (vs := []) (R := mc Cl c' m2 1 [] []) (rm'.le (Nat.add_le_add_left (by decide) k)) (by walk_at "lk") rfl (List.Perm.refl _) hr (by simp) (fun _ => ⟨_, List.Perm.refl _, ?_⟩) (fun v vs' e => nomatch e)
  refine Evs_cons ?_
  refine ev_tok tq tc (k := k) (X := []) (i := 6) (m := m2) (n := 1) (r := []) (vs := []) (R := mc Cl c' m1 _ _ []) (rm'.le (Nat.add_le_add_left (by decide) k)) (by walk_at "lk") rfl List.perm_append_comm (by simp) (by simp) (fun _ => ⟨_, List.perm_append_comm, ?_⟩) (fun v vs' e => nomatch e)
  refine Evs_nil ?_
  refine ⟨by simp, fun fr => ?_⟩
  rw [hfirst.1]
  apply exu
  case u => walk_at "up"
  refine Exs_cons ?_
  refine Ex_assign ?_
  refine Ev_list ?_
  refine Evs_nil ?_
  refine ⟨by simp, fun td => ?_⟩
  apply exu
  case u => walk_at "up"
  refine Exs_cons ?_
  refine Ex_for ?_
  refine Ev_call ?_
  refine Ev_builtin (v := .ty "range") tq.range tq.ng tq.nb (fun _ => rfl) ?_
  refine ⟨_, rfl, ?_⟩
  repeat walk_at "ev"
  refine ⟨.inr (.inl ⟨_, rfl⟩), Call.swap (Call_range fun rg => ⟨_, _, rfl, ?_⟩)⟩
  refine Itr.swap (Itr_rngN (j := 1) (p := 0) (q := n) (n := n) rfl rfl rfl (by decide) (Nat.le_trans hn (by decide)) (Nat.zero_add n).symm fun it => ⟨_, _, rfl, ?_⟩)
  have hlr := Nat.le_trans (lexT_len n0 r0) hr
  obtain ⟨_, hL0⟩ := hfirst
  generalize (lexT n0 r0).2.1 = n1 at *
  generalize (lexT n0 r0).2.2 = r1 at *
  generalize hSL : s0 :: sl1 = sl at *
  refine Fo_ind (ι := Nat × List Nat × List Nat × List Nat × List Nat × Int × List Nat) (fun i ℓ H => ℓ = [(sn "leaves", .ref m1.x), (sn "sums", .ref m2.x), (sn "turns", .int (n : Int)), (sn "fronts", .ref fr), (sn "told", .ref td)] ∧ i.1 ≤ n ∧ QI i.2.1 i.2.2.1 i.2.2.2.1 ∧ i.2.1.length = i.1 + 1 ∧ i.2.1.sum < 100000 ∧
      i.2.2.2.2.1 ++ hs i.1 i.2.1 = hs n sl ∧ i.2.2.2.2.1.length ≤ n - i.1 ∧ hsE i.1 i.2.1 = hsE n sl ∧ LSt nf i.2.2.1 i.2.2.2.2.2.1 i.2.2.2.2.2.2 ∧ i.2.2.2.2.2.2.length ≤ 100000 ∧ (i.1 < n → i.2.2.2.1 ≠ []) ∧
      H = (it, .rit ((n - i.1 : Nat) : Int) (i.1 : Int) 1) :: (rg, .rng 0 n 1) :: (td, .list (iV i.2.2.2.2.1)) :: (fr, .list [.str (S (fw i.2.2.1)), .str (S (fw i.2.2.2.1))]) :: (T.tb, .tab1 c' tpos rdQ) :: (mc Cl c' m1 i.2.2.2.2.2.1 i.2.2.2.2.2.2 [] ++ mc Cl c' m2 1 [] (wV i.2.2.2.1.tail)))
    (fun i => i.1) ?_ (n, sl, sl, [], [], n1, r1) ⟨rfl, Nat.le_refl _, QI.start hs', hsl, hsum, rfl, by simp, rfl, hL0, hlr, fun h => absurd h (Nat.lt_irrefl _), by rw [Nat.sub_self, ← hSL]; rfl⟩
  clear hs' hsl hsum hL0 hlr hL
  rintro ⟨m, sl', As, Bs, told, nn, rr⟩ ℓ H ⟨rfl, hm, hQ, hsl, hsum, htold, htl, hE, hLS, hrr, hBne, rfl⟩ ih
  dsimp only at hm hQ hsl hsum htold htl hE hLS hrr hBne ih ⊢
  refine Fo_step ?_
  cases m with
  | zero =>
    refine Nt_range_end (i := 1) rm' rfl (by omega) ⟨_, rfl, ?_⟩
    obtain ⟨x, rfl⟩ : ∃ x, sl' = [x] := by
      match sl', hsl with
      | [x], _ => exact ⟨x, rfl⟩
    have hb := hBne (by omega)
    obtain ⟨b, Bs1, rfl⟩ : ∃ b Bs1, Bs = b :: Bs1 := by
      cases Bs with
      | nil => exact absurd rfl hb
      | cons b B => exact ⟨b, B, rfl⟩
    have hlen := hQ.perm.length_eq
    simp at hlen
    obtain ⟨eA, eB⟩ : As = [] ∧ Bs1 = [] := ⟨List.length_eq_zero_iff.mp (by omega), List.length_eq_zero_iff.mp (by omega)⟩
    subst eA eB
    have ex : b = x := by simpa using hQ.perm
    subst ex
    obtain ⟨e1, e2⟩ := hLS
    subst e1 e2
    refine Exs_nil ?_
    refine Exs_cons ?_
    refine Ex_return ?_
    repeat walk_at "ev"
    refine ⟨by simp, ?_⟩
    have et : told = hs n sl := by rw [← htold]; simp [hs]
    subst et
    refine ⟨(td, .list (iV (hs n sl))) :: (fr, .list [.str (S []), .str (S (dg b))]) :: (T.tb, .tab1 c' tpos rdQ) :: (mc Cl c' m1 nn [] [] ++ mc Cl c' m2 1 [] []), List.sublist_cons_self _ _, ?_⟩
    exact ⟨td, fr, b, rfl, by rw [← hE]; rfl, by simpa using hsum, rfl⟩
  | succ m =>
    obtain ⟨x, y, r, rfl, hr2⟩ := two_of hsl
    obtain ⟨A1, B1, A2, B2, e1, p1, e2, p2, hQ'⟩ := hQ.step
    have hl1 := hQ.perm.length_eq
    have hl2 := p1.length_eq
    have hl3 := p2.length_eq
    simp only [List.length_append, List.length_cons] at hl1 hl2 hl3
    have hall1 : ∀ z ∈ As ++ Bs, z < 100000 := fun z hz => Nat.lt_of_le_of_lt (mem_le_sum (hQ.perm.mem_iff.mp hz)) hsum
    have hall2 : ∀ z ∈ A1 ++ B1, z < 100000 := fun z hz => Nat.lt_of_le_of_lt (mem_le_sum (List.mem_cons_of_mem x (p1.mem_iff.mp hz))) hsum
    have hxy : x + y < 100000 := by simp only [List.sum_cons] at hsum; omega
    refine Nt_range (i := 1) rfl (zpos' m) ⟨_, rfl, ?_⟩
    refine Asn_name ?_
    apply exu
    case u => walk_at "up"
    refine Exs_cons ?_
    refine Ex_assign ?_
    repeat walk_at "ev"
    refine Ex_for ?_
    refine Ev_call ?_
    refine Ev_builtin (v := .ty "range") tq.range tq.ng tq.nb (fun _ => rfl) ?_
    refine ⟨_, rfl, ?_⟩
    repeat walk_at "ev"
    refine ⟨.inr (.inl ⟨_, rfl⟩), Call.swap (Call_range fun rg2 => ⟨_, _, rfl, ?_⟩)⟩
    refine Itr.swap (Itr_rng (j := 1) (n := 2) rfl (by omega) (by omega) (by omega) (by omega) (by simp) fun it2 => ⟨_, _, rfl, ?_⟩)
    refine Fo_step ?_
    refine Nt_range (i := 1) rfl (by omega) ⟨_, rfl, ?_⟩
    refine Asn_name ?_
    apply exu
    case u => walk_at "up"
    refine hand_body (tot := 0) tq tc hint (k := k + 3) (As := As) (Bs := Bs) (n := nn) (r := rr) rm' e1 (List.ne_nil_of_length_pos (by rw [List.length_append, hl1]; exact Nat.succ_pos _)) hall1 (bl5 (c := 2) hl1 hr2 hm hn (by decide)) hLS hrr fun n2 r2 hL2 hr2' => ?_
    refine Fo_step ?_
    refine Nt_range (i := 1) rfl (by omega) ⟨_, rfl, ?_⟩
    refine Asn_name ?_
    apply exu
    case u => walk_at "up"
    refine hand_body tq tc hint (k := k + 3) (As := A1) (Bs := B1) (n := n2) (r := r2) rm' e2 (List.ne_nil_of_length_pos (by rw [List.length_append, hl2]; exact Nat.succ_pos _)) hall2 (bl5 (c := 1) hl2 hr2 hm hn (by decide)) hL2 hr2' fun n3 r3 hL3 hr3 => ?_
    refine Fo_step ?_
    refine Nt_range_end (i := 1) rm' rfl (by omega) ⟨_, rfl, ?_⟩
    rw [Nat.zero_add x]
    refine Exs_nil ?_
    refine Exs_cons ?_
    refine Ex_expr ?_
    refine Ev_method ?_
    repeat walk_at "ev"
    refine ⟨_, GM_list (i := 4) rfl PySem.F.slot_list_append PySem.F.type_list_append, .inl ⟨_, rfl⟩, ?_⟩
    repeat walk_at "ev"
    refine ⟨.inl ⟨_, rfl⟩, Call_append (i := 4) rfl (by simp [iV]; exact tl6 htl hn) ?_⟩
    refine ⟨_, rfl, rfl, ?_⟩
    refine Exs_cons ?_
    refine Ex_expr ?_
    refine Ev_method ?_
    refine Ev_name (v := .ref m2.x) (by walk_at "lk") ?_
    refine ⟨_, GM_inst (i := 12) (y := none) tc.cls rfl hmP hoP dP.ne hocP o_push lexA_no3, .inr (.inr ⟨_, rfl⟩), ?_⟩
    refine Evs_cons ?_
    refine Ev_binop ?_
    refine Ev_str ?_
    repeat walk_at "ev"
    refine O_fmt (n := x + y) (by omega) ?_
    repeat walk_at "ev"
    refine ⟨dP.callee _, ?_⟩
    refine Call.framed (push_call tc (k := k + 10) (n := 1) (t := .ref m2.t) (vs := wV B2.tail) (v := .str (S (dg (x + y)))) dP rm' (by simp [wV]; exact Nat.le_trans (bl5 (c := 0) hl3 hr2 hm hn (by decide)) (by decide))) (perm_xp (Y := [_, _, _, _, _, _, _, _, _, _, _, _]) (Z := [_, _, _])) ?_
    rintro _ _ ⟨rfl, rfl⟩
    refine ⟨_, (perm_xp (Y := [_, _, _, _, _, _, _, _, _, _, _, _]) (Z := [_, _, _])).symm, _, rfl, rfl, ?_⟩
    refine Exs_cons ?_
    refine Ex_if ?_
    refine Tr_compare ?_
    repeat walk_at "ev"
    refine O_item (i := 5) (v := .str (S (fw B2))) rfl (by omega) (by omega) rfl ?_
    repeat walk_at "ev"
    refine O_eqS (b := []) ?_
    repeat walk_at "ev"
    have g1 : (ins (x + y) r).sum < 100000 := by
      rw [sum_perm (ins_perm (x + y) r)]
      simp only [List.sum_cons] at hsum ⊢
      omega
    have g2 : (told ++ [x + y]) ++ hs m (ins (x + y) r) = hs n sl := by
      rw [← htold, List.append_assoc]; rfl
    have f0 := ih (m, ins (x + y) r, A2, B2 ++ [x + y], told ++ [x + y], n3, r3) _ _ (by simp) ⟨rfl, Nat.le_of_succ_le hm, hQ', by rw [ins_len, hr2], g1, g2, Nat.le_trans (Nat.le_of_eq List.length_append) (ltd hm htl), hE, hL3, hr3, fun _ => by simp, rfl⟩
    dsimp only at f0
    have e1' : ((n - (m + 1) : Nat) : Int) + 1 = ((n - m : Nat) : Int) := zup hm
    have e2' : ((m + 1 : Nat) : Int) - 1 = (m : Int) := zsucc m
    have e3 : iV (told ++ [x + y]) = iV told ++ [.int ((x + y : Nat) : Int)] := by
      rw [iV, List.map_append, List.map_singleton]; rfl
    rw [e3, ← e1', ← e2'] at f0
    have fin := Fo.drop (H := (rg2, .rng 0 2 1) :: _) (List.sublist_cons_self _ _) (Fo.forget (ℓ := blL m1.x m2.x fr td (n : Int) (.int ((n - (m + 1) : Nat) : Int)) (.int (0 + 1)) (x + y)) (Sub_cons (Sub_cons (Sub_cons (Sub_cons (Sub_cons Sub_nil))))) f0)
    clear f0 ih
    cases B2 with
    | nil =>
      refine sbT ?_
      refine Exs_cons ?_
      refine Ex_setitem ?_
      refine ev_tok tq tc (k := k + 3) (X := [_, _, _, _, _]) (i := 11) (m := m2) (n := 1) (r := []) (vs := [.str (S (dg (x + y)))]) (R := mc Cl c' m1 n3 r3 []) rm' (by walk_at "lk") rfl List.perm_append_comm (by simp) (by simp) (fun e => nomatch e) (fun v vs' e => ⟨_, List.perm_append_comm, ?_⟩)
      injection e with e1 e2
      subst e1 e2
      repeat walk_at "ev"
      refine ⟨fr, 4, _, 1, rfl, rfl, rfl, by omega, by simp, by simp, ?_⟩
      refine Exs_nil ?_
      refine Exs_nil ?_
      exact fin
    | cons b B2 =>
      have hb : (fw (b :: B2) == ([] : List Nat)) = false := by
        show (dg b == []) = false
        simpa using dg_ne b
      rw [hb]
      refine sbF ?_
      refine Exs_nil ?_
      refine Exs_nil ?_
      have e4 : wV ((b :: B2) ++ [x + y]).tail = wV (b :: B2).tail ++ [.str (S (dg (x + y)))] := by
        show wV (B2 ++ [x + y]) = wV B2 ++ _
        rw [wV, List.map_append]; rfl
      rw [e4] at fin
      exact fin
end
section
open PySem PySem.Spec PySem.Calls PyProof.Rows PySem.P

noncomputable def gp2 : List (List Nat) := [[32], [10], [10, 9]]
noncomputable def wd (k : Nat) (d : List Nat) : List Nat := if k = 1 then [34] ++ d ++ [34] else if k = 2 then (d.map fun c => [92, c]).flatten else d
noncomputable def pc (w f : Nat) : List Nat := wd (f / 40 % 3) (dg w) ++ gp2.getD (f / 120 % 3) []
noncomputable def pkt (q : Nat × Nat) : KT := ([(q.1 : Int), (q.2 : Int)], [])
noncomputable def unpk (x : KT) : Nat × Nat := ((x.1.getD 0 0).toNat, (x.1.getD 1 0).toNat)
theorem unpk_pkt (q : Nat × Nat) : unpk (pkt q) = q := by
  unfold unpk pkt
  simp
theorem pkt_perm {ys : List KT} {ps : List (Nat × Nat)} (h : ys.Perm (ps.map pkt)) : ∃ qs : List (Nat × Nat), ys = qs.map pkt ∧ qs.Perm ps := by
  refine ⟨ys.map unpk, ?_, ?_⟩
  · rw [List.map_map]
    have : ∀ y ∈ ys, (pkt ∘ unpk) y = y := fun y hy => by
      obtain ⟨q, _, rfl⟩ := List.mem_map.mp (h.mem_iff.mp hy)
      show pkt (unpk (pkt q)) = pkt q
      rw [unpk_pkt]
    have e := List.map_congr_left this
    rw [e]; simp
  · have := h.map unpk
    rw [List.map_map] at this
    have e : ps.map (unpk ∘ pkt) = ps := List.map_id'' (fun q => unpk_pkt q) ps
    rw [e] at this
    exact this
noncomputable def prsOf (figs : List Nat) : List (Nat × Nat) := figs.zipIdx.map fun q => (q.1 % 40, q.2)
theorem dg_len {n : Nat} (h : n < 10 ^ 6) : (dg n).length ≤ 10 := by
  have := toString_length_le (v := ((n : Nat) : Int)) (k := 10) (by omega) (by decide) (by omega)
  rw [S_dg, S_len] at this
  exact this
theorem dg_ascii (n : Nat) : ∀ c ∈ dg n, 48 ≤ c ∧ c ≤ 57 := by
  intro c hc
  unfold dg at hc
  obtain ⟨ch, hch, rfl⟩ := List.mem_map.mp hc
  exact PyProof.Rows.digit_range (Nat.isDigit_of_mem_toDigits (by decide) (by decide) hch)
variable {T : TI} {A : Around}
noncomputable abbrev lfE (pm cd : Value) (L a : Addr) : Env := callEnv (fdOf (sn "_law_file") pm cd (stAt Pr 10)) L a
noncomputable abbrev lfIn : List Stmt := forB ((fdB (stAt Pr 10)).getD 1 pss)
theorem gp2_at {f : Nat} : (sV gp2)[f / 120 % 3]? = some (.str (S (gp2.getD (f / 120 % 3) []))) := by
  have : ∀ j, j < 3 → (sV gp2)[j]? = some (.str (S (gp2.getD j []))) := fun j hj => by
    rw [sV, List.getElem?_map, List.getD_eq_getElem?_getD, List.getElem?_eq_getElem (show j < gp2.length from hj)]; rfl
  exact this _ (Nat.mod_lt _ (by decide))
theorem gp2_le {f : Nat} : (gp2.getD (f / 120 % 3) []).length ≤ 2 := by
  have : ∀ j, j < 3 → (gp2.getD j []).length ≤ 2 := by decide
  exact this _ (Nat.mod_lt _ (by decide))
theorem tl100 {t w g i : Nat} (ht : t ≤ 100 * i) (hw : w ≤ 30) (hg : g ≤ 2) : t + (w + g) ≤ 100 * (i + 1) := by omega
theorem file_tail {L a F : Addr} {pm cd : Value} {c1 c2 c3 : Addr × Cell} {figs ww tx : List Nat} {f p w m : Nat} {K : Fl → Lo → Cs → Prop} (hfv : (iV figs)[p]? = some (.int (f : Int))) (hp : p ≤ 1000000) (hfm : f < 1000000) (hwl : ww.length ≤ 30) (htl : tx.length ≤ 5000)
    (h : ∀ gl, K .next [(sn "figures", .ref F), (sn "text", .str (S (tx ++ (ww ++ gp2.getD (f / 120 % 3) [])))), (sn "weight", .int (w : Int)), (sn "place", .int (p : Int)), (sn "manner", .int (m : Int)), (sn "word", .str (S ww))] [(gl, .list (sV gp2)), c1, c2, c3, (F, .list (iV figs))]) :
    Ex T A (lfE pm cd L a) [(sn "figures", .ref F), (sn "text", .str (S tx)), (sn "weight", .int (w : Int)), (sn "place", .int (p : Int)), (sn "manner", .int (m : Int)), (sn "word", .str (S ww))] [c1, c2, c3, (F, .list (iV figs))] (lfIn.getD 3 pss) K := by
  have gl2 := gp2_le (f := f)
  refine Ex_aug (v := .str (S tx)) (by walk_at "lk") ?_
  refine Ev_binop ?_
  refine Ev_name (v := .str (S ww)) (by walk_at "lk") ?_
  refine Ev_sub ?_
  refine Ev_list ?_
  repeat walk_at "ev"
  refine ⟨by simp, fun gl => ?_⟩
  repeat walk_at "ev"
  refine O_itemN (i := 5) (n := p) (v := .int (f : Int)) rfl rfl hp hfv ?_
  repeat walk_at "ev"
  refine O_fdiv (by omega) (by decide) ?_
  rw [show ((f : Int).fdiv 120) = ((f / 120 : Nat) : Int) from fdiv2 f 120]
  repeat walk_at "ev"
  refine O_fmod (by omega) ?_
  rw [show (((f / 120 : Nat) : Int).fmod 3) = ((f / 120 % 3 : Nat) : Int) from fmod2 (f / 120) 3]
  repeat walk_at "ev"
  refine O_itemN (i := 1) (n := f / 120 % 3) (vs := sV gp2) rfl rfl (Nat.le_trans (Nat.le_of_lt (Nat.mod_lt _ (by decide : 0 < 3))) (by decide)) gp2_at ?_
  refine inI ?_
  refine O_adds (by omega) ?_
  refine inI ?_
  refine O_iadds (by simp only [List.length_append]; omega) ?_
  refine inI ?_
  apply exu
  case u => walk_at "up"
  exact h gl
theorem file_call (tq : Tq T) {k : Nat} {figs : List Nat} {F a : Addr} {pm cd : Value} (d : DefAt T a (fdOf (sn "_law_file") pm cd (stAt Pr 10)) (fdB (stAt Pr 10))) (rm : Rm A (k + 4)) (h2 : 2 ≤ figs.length) (hl : figs.length ≤ 50) (hf : ∀ f ∈ figs, f < 1000000) :
    Call T A [(F, .list (iV figs))] (.ref a) [.ref F] (fun v C' => ∃ qs : List (Nat × Nat), qs.Perm (prsOf figs) ∧ qs.Pairwise (fun x y => x.1 ≤ y.1) ∧ v = .str (S (qs.flatMap fun q => pc q.1 (figs.getD q.2 0))) ∧ C' = [(F, .list (iV figs))]) := by
  refine Call_def (n := k + 3) (names := [sn "figures"]) (ℓ₀ := [(sn "figures", .ref F)]) d rm (fun xs hxs => ?_) (by simp) rfl (no_cell (by kernel_rfl)) (all_local (by kernel_rfl)) (fun L => ?_)
  · obtain ⟨x, rfl⟩ := len1 hxs
    kernel_rfl
  have rm' := rm.deeper (callEnv (fdOf (sn "_law_file") pm cd (stAt Pr 10)) L a)
  generalize hE : callEnv (fdOf (sn "_law_file") pm cd (stAt Pr 10)) L a = E at rm'
  generalize A.deeper E = A' at rm' ⊢
  subst hE
  repeat walk_at "ev"
  refine Ex_for ?_
  refine Ev_call ?_
  refine Ev_builtin (v := .bi "sorted") tq.sorted tq.ng tq.nb (fun _ => rfl) ?_
  refine ⟨_, rfl, ?_⟩
  refine Evs_cons ?_
  refine Ev_comp [] ?_
  refine Ev_call ?_
  refine Ev_builtin (v := .ty "enumerate") tq.enum tq.ng tq.nb (fun _ => rfl) ?_
  refine ⟨_, rfl, ?_⟩
  repeat walk_at "ev"
  refine ⟨.inr (.inl ⟨_, rfl⟩), Call.swap (Call_enumerate_list (j := 1) rfl fun e it => ⟨_, _, rfl, ?_⟩)⟩
  refine Itr_enl (j := 1) rfl ⟨_, rfl, fun D LC => ⟨Self_enl (i := 3) rfl, ?_⟩⟩
  have hpg : ∀ i, (hi : i < figs.length) → (prsOf figs)[i]? = some (figs[i] % 40, i) := fun i hi => by
    unfold prsOf
    rw [List.getElem?_map, List.getElem?_zipIdx, List.getElem?_eq_getElem hi]
    simp
  have hpl : (prsOf figs).length = figs.length := by simp [prsOf]
  refine Cm_ind (ι := Nat) (fun i ℓ H => ℓ = [] ∧ i ≤ figs.length ∧ H = [lc (callEnv (fdOf (sn "_law_file") pm cd (stAt Pr 10)) L a) [(sn "figures", .ref F), (sn "text", .str (S []))], (D, .list ((((prsOf figs).take i).map pkt).map tupK)), (e, .enl it F i), (F, .list (iV figs))]) (fun i => figs.length - i) ?_ 0 ⟨rfl, by omega, rfl⟩
  rintro i ℓ H ⟨rfl, hi, rfl⟩ ih
  refine Cm_step ?_
  by_cases hlt : i < figs.length
  · have hg := hpg i hlt
    generalize figs[i] = f at hg
    have hv : (iV figs)[i]? = some (.int ((figs[i] : Nat) : Int)) := by rw [iV, List.getElem?_map, List.getElem?_eq_getElem hlt]; rfl
    have hfe : figs[i] % 40 = f % 40 := by
      have := hpg i hlt
      rw [hg] at this
      injection this with h1
      injection h1 with h1 _
      exact h1.symm
    refine Nt_enl (i := 3) (j := 4) rfl rfl hv ⟨_, rfl, ?_⟩
    refine Asn_tuple rm' (Asns_cons (Asn_name ?_))
    apply exu
    case u => walk_at "up"
    refine Asns_cons (Asn_name ?_)
    apply exu
    case u => walk_at "up"
    refine Asns_nil ?_
    repeat walk_at "ev"
    refine O_fmod (by omega) ?_
    rw [show (((figs[i] : Nat) : Int).fmod 40) = ((figs[i] % 40 : Nat) : Int) from fmod2 _ 40]
    repeat walk_at "ev"
    refine ⟨by simp, ?_⟩
    refine ⟨1, _, rfl, by simp; omega, ?_⟩
    refine Cm.forget (ℓ' := []) Sub_nil ?_
    refine ih (i + 1) _ _ (dec1 hlt) ⟨rfl, hlt, ?_⟩
    have htk : (prsOf figs).take (i + 1) = (prsOf figs).take i ++ [(figs[i] % 40, i)] := by rw [List.take_add_one, hpg i hlt]; rfl
    rw [htk, List.map_append, List.map_append]
    rfl
  · have hie : i = figs.length := by omega
    subst hie
    refine Nt_enl_end (i := 3) (j := 4) rm' rfl rfl (by simp [iV]) ⟨_, rfl, ?_⟩
    clear ih
    rw [List.take_of_length_le (by omega)]
    refine ⟨_, rfl, ?_⟩
    refine Evs_nil ?_
    refine ⟨.inl ⟨_, rfl⟩, Call.swap (Call_sorted (i := 1) (m := 2) rfl (by simp; omega) (by simp; omega) (by omega) (fun x hx => ?_) ?_ (fun x hx v hv => ?_) fun b ys hp hs => ⟨_, _, rfl, ?_⟩)⟩
    · obtain ⟨q, _, rfl⟩ := List.mem_map.mp hx
      rfl
    · rw [List.nodup_iff_pairwise_ne, List.pairwise_map, List.pairwise_map, List.pairwise_iff_getElem]
      intro p q hp hq hpq e
      have e1 : (prsOf figs)[p].2 = p := by
        have := hpg p (by omega)
        rw [List.getElem?_eq_getElem hp] at this
        injection this with this
        rw [this]
      have e2 : (prsOf figs)[q].2 = q := by
        have := hpg q (by omega)
        rw [List.getElem?_eq_getElem hq] at this
        injection this with this
        rw [this]
      simp only [pkt] at e
      injection e with _ e
      injection e with e _
      omega
    · obtain ⟨q, _, rfl⟩ := List.mem_map.mp hx
      cases hv
    obtain ⟨qs, rfl, hq⟩ := pkt_perm hp
    have hsq : qs.Pairwise (fun x y => x.1 ≤ y.1) := by
      rw [List.pairwise_map] at hs
      refine hs.imp fun {x y} hxy => ?_
      have : lexB [(x.1 : Int), (x.2 : Int)] [(y.1 : Int), (y.2 : Int)] = true := hxy
      unfold lexB at this
      split at this
      · omega
      · have := of_decide_eq_true this; omega
    have hql : qs.length = figs.length := hq.length_eq.trans hpl
    have hqf : ∀ q ∈ qs, q.1 < 40 ∧ q.2 < figs.length := fun q hq' => by
      have := hq.mem_iff.mp hq'
      obtain ⟨j, hj, e⟩ := List.getElem_of_mem this
      have := hpg j (by omega)
      rw [List.getElem?_eq_getElem hj, e] at this
      injection this with this
      rw [this]
      exact ⟨by show _ % 40 < 40; omega, by show j < _; omega⟩
    clear hp hs
    refine Itr.swap (Itr_list (j := 1) rfl fun it2 => ⟨_, _, rfl, ?_⟩)
    have hfv0 : ∀ p, (hp : p < figs.length) → (iV figs)[p]? = some (.int ((figs.getD p 0 : Nat) : Int)) := fun p hp => by
      rw [iV, List.getElem?_map, List.getD_eq_getElem?_getD, List.getElem?_eq_getElem hp]; rfl
    refine Fo_ind (ι := Nat × List Nat) (fun i ℓ H => ℓ = [(sn "figures", .ref F), (sn "text", .str (S i.2))] ∧ i.1 ≤ qs.length ∧ (qs.take i.1).flatMap (fun q => pc q.1 (figs.getD q.2 0)) = i.2 ∧ i.2.length ≤ 100 * i.1 ∧
      H = [(it2, .lit b i.1), (b, .list ((qs.map pkt).map tupK)), (D, .list (((prsOf figs).map pkt).map tupK)), (F, .list (iV figs))]) (fun i => qs.length - i.1) ?_ (0, []) ⟨rfl, by simp, rfl, by simp, rfl⟩
    rintro ⟨i, tx⟩ ℓ H ⟨rfl, hi, htx, htl, rfl⟩ ih
    dsimp only at hi htx htl ih ⊢
    refine Fo_step ?_
    by_cases hlt : i < qs.length
    · have hq0 : qs[i]? = some qs[i] := List.getElem?_eq_getElem hlt
      have htk : qs.take (i + 1) = qs.take i ++ [qs[i]] := by rw [List.take_add_one, hq0]; rfl
      obtain ⟨hw40, hpl'⟩ := hqf qs[i] (List.getElem_mem hlt)
      generalize qs[i] = q at hq0 htk hw40 hpl'
      have hfv := hfv0 q.2 hpl'
      have hfm : figs.getD q.2 0 < 1000000 := by
        rw [List.getD_eq_getElem?_getD, List.getElem?_eq_getElem hpl']; exact hf _ (List.getElem_mem _)
      generalize hfd : figs.getD q.2 0 = f at hfv hfm
      have hdl := dg_len (n := q.1) (by omega)
      have hp6 : q.2 ≤ 1000000 := Nat.le_trans (Nat.le_of_lt hpl') (Nat.le_trans hl (by decide))
      have htl5 : tx.length ≤ 5000 := Nat.le_trans htl (Nat.mul_le_mul_left 100 (Nat.le_trans (Nat.le_of_lt hlt) (Nat.le_trans (Nat.le_of_eq hql) hl)))
      have cont := fun (ww : List Nat) (hwl : ww.length ≤ 30) (hwd : wd (f / 40 % 3) (dg q.1) = ww) => ih (i + 1, tx ++ (ww ++ gp2.getD (f / 120 % 3) [])) _ _ (dec1 hlt) ⟨rfl, hlt, by
        show (qs.take (i + 1)).flatMap _ = tx ++ (ww ++ gp2.getD (f / 120 % 3) [])
        rw [htk, List.flatMap_append, htx, List.flatMap_singleton, hfd, pc, hwd], by simp only [List.length_append]; exact tl100 htl hwl gp2_le, rfl⟩
      refine Nt_list (i := 1) (j := 2) (v := .tup [.int (q.1 : Int), .int (q.2 : Int)]) rfl rfl (by rw [List.getElem?_map, List.getElem?_map, hq0]; rfl) ⟨_, rfl, ?_⟩
      refine Asn_tuple rm' (Asns_cons (Asn_name ?_))
      apply exu
      case u => walk_at "up"
      refine Asns_cons (Asn_name ?_)
      apply exu
      case u => walk_at "up"
      refine Asns_nil ?_
      refine Exs_cons ?_
      refine Ex_assign ?_
      repeat walk_at "ev"
      refine O_itemN (i := 4) (n := q.2) (v := .int (f : Int)) rfl rfl hp6 hfv ?_
      repeat walk_at "ev"
      refine O_fdiv (by omega) (by decide) ?_
      rw [show ((f : Int).fdiv 40) = ((f / 40 : Nat) : Int) from fdiv2 f 40]
      repeat walk_at "ev"
      refine O_fmod (by omega) ?_
      rw [show (((f / 40 : Nat) : Int).fmod 3) = ((f / 40 % 3 : Nat) : Int) from fmod2 (f / 40) 3]
      repeat walk_at "ev"
      refine O_fmt (n := q.1) (by omega) ?_
      repeat walk_at "ev"
      refine sb (fun hc => ?_) (fun hc => ?_)
      · have hk : f / 40 % 3 = 1 := by have := beq_iff_eq.mp hc; omega
        refine Exs_cons ?_
        refine Ex_assign ?_
        refine Ev_binop ?_
        refine Ev_binop ?_
        refine Ev_str ?_
        repeat walk_at "ev"
        refine O_adds (a := [34]) (by simp; omega) ?_
        repeat walk_at "ev"
        refine O_adds (b := [34]) (by simp; omega) ?_
        refine inI ?_
        apply exu
        case u => walk_at "up"
        have hwl : ([34] ++ dg q.1 ++ [34]).length ≤ 30 := by simp; omega
        have hwd : wd (f / 40 % 3) (dg q.1) = [34] ++ dg q.1 ++ [34] := by unfold wd; rw [if_pos hk]
        generalize [34] ++ dg q.1 ++ [34] = ww at hwl hwd ⊢
        repeat walk_at "ev"
        refine file_tail hfv hp6 hfm hwl htl5 (fun gl => ?_)
        repeat walk_at "ev"
        refine Fo.drop (List.sublist_cons_self _ _) ?_
        refine Fo.forget (ℓ' := [(sn "figures", .ref F), (sn "text", .str (S (tx ++ (ww ++ gp2.getD (f / 120 % 3) []))))]) (Sub_cons (Sub_cons Sub_nil)) ?_
        exact cont ww hwl hwd
      · have hk : ¬ f / 40 % 3 = 1 := by have := beq_eq_false_iff_ne.mp hc; omega
        refine Exs_cons ?_
        refine Ex_if ?_
        refine Tr_compare ?_
        repeat walk_at "ev"
        refine sb (fun hc2 => ?_) (fun hc2 => ?_)
        · have hk2 : f / 40 % 3 = 2 := by have := beq_iff_eq.mp hc2; omega
          refine Exs_cons ?_
          refine Ex_assign ?_
          refine Ev_method ?_
          refine Ev_str ?_
          refine ⟨_, GM_str PySem.F.slot_str_join PySem.F.type_str_join, .inl ⟨_, rfl⟩, ?_⟩
          refine Evs_cons ?_
          refine Ev_comp [] ?_
          refine Ev_name (v := .str (S (dg q.1))) (by walk_at "lk") ?_
          refine Itr.swap (Itr_str (by
            simp only [S]
            rw [← Array.all_toList, List.all_eq_true]
            intro c hc'
            have := dg_ascii q.1 c hc'
            simp; omega) fun si => ⟨_, _, rfl, fun D2 LC2 => ⟨Self_sit (i := 3) rfl, ?_⟩⟩)
          refine Cm_ind (ι := Nat) (fun j ℓ H => ℓ = [] ∧ j ≤ (dg q.1).length ∧ H = [lc (callEnv (fdOf (sn "_law_file") pm cd (stAt Pr 10)) L a) [(sn "figures", .ref F), (sn "text", .str (S tx)), (sn "weight", .int (q.1 : Int)), (sn "place", .int (q.2 : Int)), (sn "manner", .int ((f / 40 % 3 : Nat) : Int)), (sn "word", .str (S (dg q.1)))], (D2, .list (sV (((dg q.1).take j).map fun c => [92, c]))), (si, .sit (S (dg q.1)) j), (it2, .lit b (i + 1)), (b, .list ((qs.map pkt).map tupK)), (D, .list (((prsOf figs).map pkt).map tupK)), (F, .list (iV figs))]) (fun j => (dg q.1).length - j) ?_ 0 ⟨rfl, by omega, rfl⟩
          rintro j ℓ H ⟨rfl, hj, rfl⟩ ih2
          refine Cm_step ?_
          by_cases hjl : j < (dg q.1).length
          · have hcj : (S (dg q.1)).cps[j]? = some (dg q.1)[j] := by simp [S, hjl]
            have hcj2 : (dg q.1)[j]? = some (dg q.1)[j] := List.getElem?_eq_getElem hjl
            generalize (dg q.1)[j] = c at hcj hcj2
            refine Nt_sit (i := 3) (c := c) rfl hcj ⟨_, rfl, ?_⟩
            refine Asn_name ?_
            apply exu
            case u => walk_at "up"
            refine Ev_binop ?_
            refine Ev_str ?_
            repeat walk_at "ev"
            refine O_adds (a := [92]) (b := [c]) (by simp) ?_
            refine inI ?_
            refine ⟨1, _, rfl, by simp [sV]; omega, ?_⟩
            refine Cm.forget (ℓ' := []) Sub_nil ?_
            refine ih2 (j + 1) _ _ (dec1 hjl) ⟨rfl, hjl, ?_⟩
            have : (dg q.1).take (j + 1) = (dg q.1).take j ++ [c] := by rw [List.take_add_one, hcj2]; rfl
            rw [this, List.map_append, sV, sV, List.map_append]
            rfl
          · have hje : j = (dg q.1).length := atEnd hj hjl
            subst hje
            refine Nt_sit_end (i := 3) rm' rfl (by simp [S]) ⟨_, rfl, ?_⟩
            clear ih2
            rw [List.take_length]
            refine ⟨_, rfl, ?_⟩
            refine Evs_nil ?_
            have hwl : ((dg q.1).map fun c => [92, c]).flatten.length ≤ 30 := by
              have : ∀ l : List Nat, (l.map fun c => [92, c]).flatten.length = 2 * l.length := fun l => by
                induction l with
                | nil => rfl
                | cons c l ih => simp only [List.map_cons, List.flatten_cons, List.length_append, ih, List.length_cons, List.length_nil]; omega
              rw [this]; omega
            have hwd : wd (f / 40 % 3) (dg q.1) = ((dg q.1).map fun c => [92, c]).flatten := by unfold wd; rw [if_neg hk, if_pos hk2]
            refine ⟨.inl ⟨_, rfl⟩, Call_join (i := 1) (ls := (dg q.1).map fun c => [92, c]) rfl (by omega) ?_⟩
            refine inI ?_
            apply exu
            case u => walk_at "up"
            refine Exs.drop (List.sublist_cons_self _ _) ?_
            generalize ((dg q.1).map fun c => [92, c]).flatten = ww at hwl hwd ⊢
            refine Exs_nil ?_
            refine Exs_nil ?_
            repeat walk_at "ev"
            refine file_tail hfv hp6 hfm hwl htl5 (fun gl => ?_)
            repeat walk_at "ev"
            refine Fo.drop (List.sublist_cons_self _ _) ?_
            refine Fo.forget (ℓ' := [(sn "figures", .ref F), (sn "text", .str (S (tx ++ (ww ++ gp2.getD (f / 120 % 3) []))))]) (Sub_cons (Sub_cons Sub_nil)) ?_
            exact cont ww hwl hwd
        · have hk2 : ¬ f / 40 % 3 = 2 := by have := beq_eq_false_iff_ne.mp hc2; omega
          have hwl : (dg q.1).length ≤ 30 := by omega
          have hwd : wd (f / 40 % 3) (dg q.1) = dg q.1 := by unfold wd; rw [if_neg hk, if_neg hk2]
          generalize hww : dg q.1 = ww at hwl ⊢
          refine Exs_nil ?_
          refine Exs_nil ?_
          repeat walk_at "ev"
          refine file_tail hfv hp6 hfm hwl htl5 (fun gl => ?_)
          repeat walk_at "ev"
          refine Fo.drop (List.sublist_cons_self _ _) ?_
          refine Fo.forget (ℓ' := [(sn "figures", .ref F), (sn "text", .str (S (tx ++ (ww ++ gp2.getD (f / 120 % 3) []))))]) (Sub_cons (Sub_cons Sub_nil)) ?_
          exact cont ww hwl (hwd.trans hww)
    · have hie : i = qs.length := atEnd hi hlt
      subst hie
      refine Nt_list_end (i := 1) (j := 2) rm' rfl rfl (by simp) ⟨_, rfl, ?_⟩
      refine Exs_nil ?_
      refine Exs_cons ?_
      refine Ex_return ?_
      repeat walk_at "ev"
      refine ⟨[(F, .list (iV figs))], List.Sublist.cons _ (List.Sublist.cons _ (List.Sublist.refl _)), qs, hq, hsq, ?_, rfl⟩
      rw [List.take_length] at htx
      rw [htx]
      rfl
end
section
open PySem PySem.Spec PySem.Calls PyProof.Rows PySem.P
theorem nl_count (c : Nat) (l : List Nat) : (((c :: l).count 10 : Nat) : Int) = nl c + ((l.count 10 : Nat) : Int) := by
  rw [List.count_cons]
  unfold nl
  by_cases h : c = 10
  · subst h; simp; omega
  · have : (c == 10) = false := by simpa using h
    simp [this, h]
theorem lexT_blank : ∀ (g : List Nat) (n : Int) (r : List Nat), (∀ c ∈ g, c ∈ blk) → lexT n (g ++ r) = lexT (n + ((g.count 10 : Nat) : Int)) r
  | [], n, r, _ => by simp
  | c :: g, n, r, h => by
    rw [List.cons_append, lexT_cons, if_pos (h c (.head _)), lexT_blank g _ r (fun d hd => h d (.tail _ hd)), nl_count]
    congr 1; omega
/-- a figure's sign is plain -/
theorem fig_pl {c : Nat} (h : 48 ≤ c ∧ c ≤ 57) : c ∉ blk ∧ c ≠ 34 ∧ c ≠ 92 ∧ nl c = 0 := by
  refine ⟨?_, by omega, by omega, ?_⟩
  · simp [blk]; omega
  · unfold nl; simp; omega
theorem lexQ_fig : ∀ (d : List Nat) (tok : List Nat) (n : Int) (r : List Nat), (∀ c ∈ d, 48 ≤ c ∧ c ≤ 57) → lexQ tok n (d ++ 34 :: r) = (tok ++ d, n, r)
  | [], tok, n, r, _ => by rw [List.nil_append, lexQ_cons, if_pos rfl, List.append_nil]
  | c :: d, tok, n, r, h => by
    obtain ⟨h1, h2, h3, h4⟩ := fig_pl (h c (.head _))
    rw [List.cons_append, lexQ_cons, if_neg h2, if_neg h3, lexQ_fig d _ _ _ (fun e he => h e (.tail _ he)), h4]
    simp
theorem lexW_fig {b : Nat} (hb : b ∈ blk) : ∀ (d : List Nat) (tok : List Nat) (n : Int) (r : List Nat), (∀ c ∈ d, 48 ≤ c ∧ c ≤ 57) → lexW tok n (d ++ b :: r) = (tok ++ d, n + nl b, r)
  | [], tok, n, r, _ => by rw [List.nil_append, lexW_cons, if_pos hb, List.append_nil]
  | c :: d, tok, n, r, h => by
    obtain ⟨h1, h2, h3, h4⟩ := fig_pl (h c (.head _))
    rw [List.cons_append, lexW_cons, if_neg h1, if_neg h3, lexW_fig hb d _ _ _ (fun e he => h e (.tail _ he)), h4]
    simp
theorem lexW_bsl {b : Nat} (hb : b ∈ blk) : ∀ (d : List Nat) (tok : List Nat) (n : Int) (r : List Nat), (∀ c ∈ d, 48 ≤ c ∧ c ≤ 57) → lexW tok n ((d.map fun c => [92, c]).flatten ++ b :: r) = (tok ++ d, n + nl b, r)
  | [], tok, n, r, _ => by rw [List.map_nil, List.flatten_nil, List.nil_append, lexW_cons, if_pos hb, List.append_nil]
  | c :: d, tok, n, r, h => by
    obtain ⟨h1, h2, h3, h4⟩ := fig_pl (h c (.head _))
    rw [List.map_cons, List.flatten_cons]
    show lexW tok n (92 :: (c :: ((d.map fun c => [92, c]).flatten ++ b :: r))) = _
    rw [lexW_cons, if_neg (by decide), if_pos rfl]
    show lexW (tok ++ [c]) (n + nl c) _ = _
    rw [lexW_bsl hb d _ _ _ (fun e he => h e (.tail _ he)), h4]
    simp
theorem wd_count (k : Nat) (d : List Nat) (h : ∀ c ∈ d, 48 ≤ c ∧ c ≤ 57) : (wd k d).count 10 = 0 := by
  refine List.count_eq_zero.mpr fun hm => ?_
  unfold wd at hm
  split at hm
  · simp at hm; have := h 10 hm; omega
  · split at hm
    · obtain ⟨l, hl, hm⟩ := List.mem_flatten.mp hm
      obtain ⟨c, hc, rfl⟩ := List.mem_map.mp hl
      simp at hm
      subst hm
      have := h 10 hc; omega
    · have := h 10 hm; omega
/-- one word of the file is read, with its gap but for a blank rest -/
theorem lex_wd (k : Nat) (d : List Nat) (hd : d ≠ []) (h : ∀ c ∈ d, 48 ≤ c ∧ c ≤ 57) (b : Nat) (hb : b ∈ blk) (g r : List Nat) (n : Int) :
    ∃ n' r', lexT n (wd k d ++ (b :: g ++ r)) = (d, n', r') ∧ ((r' = b :: g ++ r ∧ n' = n) ∨ (r' = g ++ r ∧ n' = n + nl b)) := by
  unfold wd
  split
  · refine ⟨n, b :: g ++ r, ?_, .inl ⟨rfl, rfl⟩⟩
    have e : [34] ++ d ++ [34] ++ (b :: g ++ r) = 34 :: (d ++ 34 :: (b :: g ++ r)) := by simp
    rw [e, lexT_cons, if_neg (by decide), if_pos rfl, lexQ_fig d _ _ _ h]
    simp
  · obtain ⟨c, d', rfl⟩ : ∃ c d', d = c :: d' := by
      cases d with
      | nil => exact absurd rfl hd
      | cons c d => exact ⟨c, d, rfl⟩
    obtain ⟨h1, h2, h3, h4⟩ := fig_pl (h c (.head _))
    have h' := fun e he => h e (.tail _ he)
    refine ⟨n + nl b, g ++ r, ?_, .inr ⟨rfl, rfl⟩⟩
    split
    · rw [List.map_cons, List.flatten_cons]
      show lexT n (92 :: (c :: ((d'.map fun c => [92, c]).flatten ++ b :: (g ++ r)))) = _
      rw [lexT_cons, if_neg (by decide), if_neg (by decide), if_pos rfl]
      show lexW [c] (n + nl c) _ = _
      rw [lexW_bsl hb d' _ _ _ h', h4]
      simp
    · show lexT n (c :: (d' ++ b :: (g ++ r))) = _
      rw [lexT_cons, if_neg h1, if_neg h2, if_neg h3, lexW_fig hb d' _ _ _ h', h4]
      simp
theorem gp2_ok (j : Nat) (hj : j < 3) : ∃ b g, gp2.getD j [] = b :: g ∧ b ∈ blk ∧ (∀ c ∈ g, c ∈ blk) ∧ (b :: g).length ≤ 2 := by
  have : j = 0 ∨ j = 1 ∨ j = 2 := by omega
  rcases this with rfl | rfl | rfl
  · exact ⟨32, [], rfl, by decide, by decide, by decide⟩
  · exact ⟨10, [], rfl, by decide, by decide, by decide⟩
  · exact ⟨10, [9], rfl, by decide, by decide, by decide⟩
theorem file_lex (fg : Nat × Nat → Nat) : ∀ (qs : List (Nat × Nat)) (g : List Nat) (n : Int), (∀ c ∈ g, c ∈ blk) →
    LxS (n + (((g ++ qs.flatMap fun q => pc q.1 (fg q)).count 10 : Nat) : Int)) n (g ++ qs.flatMap fun q => pc q.1 (fg q)) ((qs.map Prod.fst).map dg)
  | [], g, n, hg => by
    refine .fin ?_
    rw [List.flatMap_nil, lexT_blank g n [] hg, List.append_nil, lexT]
  | q :: qs, g, n, hg => by
    obtain ⟨b, g', e, hb, hg', _⟩ := gp2_ok (fg q / 120 % 3) (by omega)
    have e1 : (q :: qs).flatMap (fun q => pc q.1 (fg q)) = wd (fg q / 40 % 3) (dg q.1) ++ (b :: g' ++ qs.flatMap fun q => pc q.1 (fg q)) := by
      rw [List.flatMap_cons, pc, e, List.append_assoc]
    have hw := wd_count (fg q / 40 % 3) (dg q.1) (dg_ascii q.1)
    rw [e1]
    generalize hR : (qs.flatMap fun q => pc q.1 (fg q)) = R
    obtain ⟨n', r', e2, hr⟩ := lex_wd (fg q / 40 % 3) (dg q.1) (dg_ne _) (dg_ascii q.1) b hb g' R (n + ((g.count 10 : Nat) : Int))
    have e3 : n + (((g ++ (wd (fg q / 40 % 3) (dg q.1) ++ (b :: g' ++ R))).count 10 : Nat) : Int) = n + ((g.count 10 : Nat) : Int) + (((b :: (g' ++ R)).count 10 : Nat) : Int) := by
      rw [List.count_append, List.count_append, hw]
      show n + ((_ + (0 + (b :: (g' ++ R)).count 10) : Nat) : Int) = _
      omega
    rw [e3]
    refine .cons (n' := n') (r' := r') (w := dg q.1) ?_ (dg_ne _) ?_
    · rw [lexT_blank g n _ hg, e2]
    · rcases hr with ⟨rfl, rfl⟩ | ⟨rfl, rfl⟩
      · have ih := file_lex fg qs (b :: g') (n + ((g.count 10 : Nat) : Int)) (fun c hc => by
          rcases List.mem_cons.mp hc with rfl | hc
          · exact hb
          · exact hg' c hc)
        rw [hR] at ih
        exact ih
      · have ih := file_lex fg qs g' (n + ((g.count 10 : Nat) : Int) + nl b) hg'
        rw [hR] at ih
        rw [nl_count, ← Int.add_assoc]
        exact ih
theorem wd_len (k : Nat) (d : List Nat) : (wd k d).length ≤ 2 * d.length + 2 := by
  unfold wd
  split
  · simp; omega
  · split
    · have : ∀ d : List Nat, (d.map fun c => [92, c]).flatten.length = 2 * d.length := by
        intro d; induction d with
        | nil => rfl
        | cons c d ih => rw [List.map_cons, List.flatten_cons, List.length_append, ih]; simp; omega
      rw [this]; omega
    · omega
theorem file_len (fg : Nat × Nat → Nat) : ∀ (qs : List (Nat × Nat)), (∀ q ∈ qs, q.1 < 10 ^ 6) → (qs.flatMap fun q => pc q.1 (fg q)).length ≤ 24 * qs.length
  | [], _ => by simp
  | q :: qs, h => by
    obtain ⟨b, g', e, hb, hg', hl⟩ := gp2_ok (fg q / 120 % 3) (by omega)
    have := file_len fg qs (fun x hx => h x (.tail _ hx))
    have h1 := dg_len (h q (.head _))
    have h2 := wd_len (fg q / 40 % 3) (dg q.1)
    rw [List.flatMap_cons, List.length_append, pc, e, List.length_append]
    simp only [List.length_cons] at hl ⊢
    omega
end
section
open PySem PySem.Spec PySem.Calls PyProof.Rows PySem.P
/-- the last sum told is what is left -/
theorem hs_last : ∀ (n : Nat) (l : List Nat), l.length = n + 2 → ∃ ys x, hs (n + 1) l = ys ++ [x] ∧ hsE (n + 1) l = [x]
  | 0, l, h => by
    match l, h with
    | [a, b], _ => exact ⟨[], a + b, rfl, rfl⟩
  | n + 1, l, h => by
    obtain ⟨a, b, r, rfl, hr⟩ := two_of h
    obtain ⟨ys, x, h1, h2⟩ := hs_last n (ins (a + b) r) (by rw [ins_len]; omega)
    refine ⟨(a + b) :: ys, x, ?_, h2⟩
    show (a + b) :: hs (n + 1) (ins (a + b) r) = _
    rw [h1]; rfl
theorem hs_len : ∀ (n : Nat) (l : List Nat), l.length = n + 1 → (hs n l).length = n
  | 0, l, h => by
    match l, h with
    | [a], _ => rfl
  | n + 1, l, h => by
    obtain ⟨a, b, r, rfl, hr⟩ := two_of h
    show (hs n (ins (a + b) r)).length + 1 = _
    rw [hs_len n _ (by rw [ins_len]; omega)]
theorem up_unique {a b : List Nat} (p : a.Perm b) (ha : a.Pairwise (· ≤ ·)) (hb : b.Pairwise (· ≤ ·)) : a = b := by
  have := sorted_unique ((List.reverse_perm a).trans (p.trans (List.reverse_perm b).symm)) (List.pairwise_reverse.mpr ha) (List.pairwise_reverse.mpr hb)
  exact List.reverse_inj.mp this
/-- one place of the table -/
theorem cost_step {row : List Nat} {f : Nat → Nat → Nat} {size start M : Nat} (h2 : 2 ≤ size) (hss : start + size ≤ row.length)
    (hf : ∀ j s, j + 1 < size → s + j + 1 ≤ row.length → IsC ((row.drop s).take (j + 1)) (f j s))
    (h1 : ∃ k, 1 ≤ k ∧ k < size ∧ M = f (k - 1) start + f (size - k - 1) (start + k)) (hm : ∀ k, 1 ≤ k → k < size → M ≤ f (k - 1) start + f (size - k - 1) (start + k)) :
    IsC ((row.drop start).take size) (((row.drop start).take size).sum + M) := by
  have hl : ((row.drop start).take size).length = size := by rw [List.length_take, List.length_drop]; omega
  refine IsC.step (by rw [hl]; exact h2) (fun k => f (k - 1) start) (fun k => f (size - k - 1) (start + k)) (fun k k1 k2 => ?_) (fun k k1 k2 => ?_) ?_ ?_
  · rw [hl] at k2
    have := hf (k - 1) start (by omega) (by omega)
    rw [show k - 1 + 1 = k by omega] at this
    rw [List.take_take, Nat.min_eq_left (by omega)]
    exact this
  · rw [hl] at k2
    have := hf (size - k - 1) (start + k) (by omega) (by omega)
    rw [show size - k - 1 + 1 = size - k by omega] at this
    rw [List.drop_take, List.drop_drop]
    exact this
  · rw [hl]; exact h1
  · rw [hl]; exact hm
theorem cost_one {row : List Nat} {s : Nat} (h : s < row.length) : IsC ((row.drop s).take 1) 0 := by
  rw [List.drop_eq_getElem_cons h]
  exact IsC.one _
theorem prs_fst (figs : List Nat) : (prsOf figs).map Prod.fst = figs.map (· % 40) := by
  unfold prsOf
  rw [List.map_map]
  show figs.zipIdx.map (fun q => q.1 % 40) = _
  have : figs = figs.zipIdx.map Prod.fst := by simp
  conv => rhs; rw [this]
  rw [List.map_map]; rfl
theorem w_sum : ∀ (l : List Nat), (∀ x ∈ l, x < 40) → l.sum ≤ 40 * l.length
  | [], _ => by simp
  | x :: l, h => by
    have := w_sum l (fun y hy => h y (.tail _ hy))
    have := h x (.head _)
    rw [List.sum_cons, List.length_cons]; omega
end
section
open PySem PySem.Spec PySem.Calls PyProof.Rows PySem.P
variable {T : TI} {A : Around}
noncomputable abbrev lcFd (pm cd : Value) : FuncData := fdOf (sn "_law_least_cost") pm cd (stAt Pr 13)
noncomputable abbrev lcE (pm cd : Value) (L a : Addr) : Env := callEnvC (lcFd pm cd) L a
/-- the levels of the table, each with its address -/
noncomputable def lvs (t : List (Addr × List Nat)) : Cs := t.map fun p => (p.1, .list (iV p.2))
noncomputable def lvR (t : List (Addr × List Nat)) : List V := t.map fun p => .ref p.1
noncomputable def tv (t : List (Addr × List Nat)) (j s : Nat) : Nat := ((t.getD j (0, [])).2).getD s 0
noncomputable abbrev lcOut : List Stmt := forB ((fdB (stAt Pr 13)).getD 1 pss)
noncomputable abbrev lcIn : List Stmt := forB (lcOut.getD 1 pss)
theorem lvs_at {P : Cs} {t : List (Addr × List Nat)} {j : Nat} (h : j < t.length) : (lvs t ++ P)[j]? = some ((t.getD j (0, [])).1, .list (iV (t.getD j (0, [])).2)) ∧ (lvR t)[j]? = some (.ref (t.getD j (0, [])).1) := by
  rw [List.getElem?_append_left (by rw [lvs, List.length_map]; exact h), lvs, lvR, List.getElem?_map, List.getElem?_map, List.getElem?_eq_getElem h, List.getD_eq_getElem?_getD, List.getElem?_eq_getElem h]
  exact ⟨rfl, rfl⟩
theorem iV_at {l : List Nat} {s : Nat} (h : s < l.length) : (iV l)[s]? = some (.int ((l.getD s 0 : Nat) : Int)) := by
  rw [iV, List.getElem?_map, List.getElem?_eq_getElem h, List.getD_eq_getElem?_getD, List.getElem?_eq_getElem h]
  rfl
theorem cz {size i : Nat} (h : i < size - 1) : (size : Int) - ((i + 1 : Nat) : Int) - 1 = ((size - 2 - i : Nat) : Int) := by omega
theorem ltm2 {size i : Nat} (h : i < size - 1) : size - 2 - i < size - 1 := by omega
theorem stlt {start size row i : Nat} (h : start + size ≤ row) (k : i < size - 1) : start < row - i := by omega
theorem stlt2 {start size row i : Nat} (h : start + size ≤ row) (k : i < size - 1) : start + i + 1 < row - (size - 2 - i) := by omega
theorem stle {start size row i : Nat} (h : start + size ≤ row) (hl : row ≤ 50) (k : i < size - 1) : start + i + 1 ≤ 1000000 ∧ start ≤ 1000000 ∧ i ≤ 1000000 ∧ size - 2 - i ≤ 1000000 := by omega
noncomputable def cutsL (t : List (Addr × List Nat)) (size start n : Nat) : List Nat := (List.range n).map fun i => tv t i start + tv t (size - 2 - i) (start + i + 1)
theorem cuts_ex (tq : Tq T) {k : Nat} {row acc : List Nat} {R L a tbl lv : Addr} {pm cd : Value} {P : Cs} {u1 u2 : Addr × Cell} {t : List (Addr × List Nat)} {size start : Nat} {K : Fl → Lo → Cs → Prop} (rm : Rm A (k + 2)) (h2 : 2 ≤ size) (hs : size ≤ 50) (hst : start + size ≤ row.length) (hl : row.length ≤ 50)
    (ht : t.length = size - 1) (hlen : ∀ j, j < t.length → (t.getD j (0, [])).2.length = row.length - j)
    (h : ∀ D rg, K .next [(sn "row", .ref R), (sn "table", .ref tbl), (sn "size", .int size), (sn "level", .ref lv), (sn "start", .int start), (sn "cuts", .ref D)] ((D, .list (iV (cutsL t size start (size - 1)))) :: (rg, .rng 1 size 1) :: u1 :: u2 :: (tbl, .list (lvR t)) :: (R, .list (iV row)) :: (lv, .list (iV acc)) :: (lvs t ++ P))) :
    Ex T A (lcE pm cd L a) [(sn "row", .ref R), (sn "table", .ref tbl), (sn "size", .int size), (sn "level", .ref lv), (sn "start", .int start)] (u1 :: u2 :: (tbl, .list (lvR t)) :: (R, .list (iV row)) :: (lv, .list (iV acc)) :: (lvs t ++ P)) (lcIn.getD 0 pss) K := by
  refine Ex_comp [(sn "table", L + 1), (sn "start", L + 1 + 2), (sn "size", L + 1 + 1)] ?_
  refine Ev_call ?_
  refine Ev_builtin (v := .ty "range") tq.range tq.ng tq.nb (fun _ => rfl) ?_
  refine ⟨_, rfl, ?_⟩
  refine Evs_cons ?_
  refine Ev_int ?_
  refine Evs_cons ?_
  refine Ev_cell (v := .int size) (by walk_at "lk") ?_
  refine Evs_nil ?_
  refine ⟨.inr (.inl ⟨_, rfl⟩), Call.swap (Call_range2 fun rg => ⟨_, _, rfl, ?_⟩)⟩
  refine Itr.swap (Itr_rngN (j := 1) (p := 1) (q := size) (n := size - 1) rfl rfl rfl (by decide) (Nat.le_trans hs (by decide)) (Nat.add_sub_of_le (Nat.le_of_succ_le h2)).symm fun it => ⟨_, _, rfl, fun D LC => ⟨Self_rit (i := 3) rfl, ?_⟩⟩)
  refine Cm_ind (ι := Nat) (fun i ℓ H => ℓ = [] ∧ i ≤ size - 1 ∧ H = lc (lcE pm cd L a) [(sn "row", .ref R), (sn "table", .ref tbl), (sn "size", .int size), (sn "level", .ref lv), (sn "start", .int start)] :: (D, .list (iV (cutsL t size start i))) :: (it, .rit ((i + 1 : Nat) : Int) ((size - 1 - i : Nat) : Int) 1) :: (rg, .rng 1 size 1) :: u1 :: u2 :: (tbl, .list (lvR t)) :: (R, .list (iV row)) :: (lv, .list (iV acc)) :: (lvs t ++ P)) (fun i => size - 1 - i) ?_ 0 ⟨rfl, Nat.zero_le _, rfl⟩
  rintro i ℓ H ⟨rfl, hi, rfl⟩ ih
  refine Cm_step ?_
  by_cases hlt : i < size - 1
  · refine Nt_range (i := 3) rfl (zpos hlt) ⟨_, rfl, ?_⟩
    refine Asn_name ?_
    apply exu
    case u => walk_at "up"
    obtain ⟨a1, a2⟩ := lvs_at (P := P) (t := t) (j := i) (Nat.lt_of_lt_of_eq hlt ht.symm)
    obtain ⟨b1, b2⟩ := lvs_at (P := P) (t := t) (j := size - 2 - i) (Nat.lt_of_lt_of_eq (ltm2 hlt) ht.symm)
    have l1 := hlen i (Nat.lt_of_lt_of_eq hlt ht.symm)
    have l2 := hlen (size - 2 - i) (Nat.lt_of_lt_of_eq (ltm2 hlt) ht.symm)
    refine Ev_binop ?_
    refine Ev_sub ?_
    refine Ev_sub ?_
    refine Ev_outer (i := 0) (v := .ref tbl) rfl (by walk_at "lk") ?_
    refine Ev_binop ?_
    refine Ev_name (by walk_at "lk") ?_
    refine Ev_int ?_
    refine O_sub ?_
    refine inI ?_
    refine O_itemN (i := 7) (n := i) (v := .ref (t.getD i (0, [])).1) rfl (zsucc i) (stle hst hl hlt).2.2.1 a2 ?_
    refine inI ?_
    refine Ev_outer (i := 0) (v := .int start) rfl (by walk_at "lk") ?_
    refine O_itemN (i := i + 10) (n := start) (v := .int (tv t i start)) a1 rfl (stle hst hl hlt).2.1 (iV_at (Nat.lt_of_lt_of_eq (stlt hst hlt) l1.symm)) ?_
    refine inI ?_
    refine Ev_sub ?_
    refine Ev_sub ?_
    refine Ev_outer (i := 0) (v := .ref tbl) rfl (by walk_at "lk") ?_
    refine Ev_binop ?_
    refine Ev_binop ?_
    refine Ev_outer (i := 0) (v := .int size) rfl (by walk_at "lk") ?_
    refine Ev_name (by walk_at "lk") ?_
    refine O_sub ?_
    refine inI ?_
    refine Ev_int ?_
    refine O_sub ?_
    refine inI ?_
    refine O_itemN (i := 7) (n := size - 2 - i) (v := .ref (t.getD (size - 2 - i) (0, [])).1) rfl (cz hlt) (stle hst hl hlt).2.2.2 b2 ?_
    refine inI ?_
    refine Ev_binop ?_
    refine Ev_outer (i := 0) (v := .int start) rfl (by walk_at "lk") ?_
    refine Ev_name (by walk_at "lk") ?_
    refine O_add ?_
    refine inI ?_
    refine O_itemN (i := size - 2 - i + 10) (n := start + i + 1) (v := .int (tv t (size - 2 - i) (start + i + 1))) b1 rfl (stle hst hl hlt).1 (iV_at (Nat.lt_of_lt_of_eq (stlt2 hst hlt) l2.symm)) ?_
    refine inI ?_
    refine O_add ?_
    refine inI ?_
    refine ⟨1, _, rfl, by simp [iV, cutsL]; exact (stle hst hl hlt).2.2.1, ?_⟩
    refine Cm.forget (ℓ' := []) Sub_nil ?_
    refine ih (i + 1) _ _ (dec1 hlt) ⟨rfl, hlt, ?_⟩
    have e1 : ((i + 1 : Nat) : Int) + 1 = ((i + 1 + 1 : Nat) : Int) := rfl
    have e2 : ((size - 1 - i : Nat) : Int) - 1 = ((size - 1 - (i + 1) : Nat) : Int) := zdec hlt
    have e3 : iV (cutsL t size start (i + 1)) = iV (cutsL t size start i) ++ [.int ((tv t i start : Int) + (tv t (size - 2 - i) (start + i + 1) : Int))] := by
      rw [cutsL, List.range_succ, List.map_append, iV, List.map_append]
      rfl
    rw [e3, ← e1, ← e2]
    rfl
  · have hi5 : i = size - 1 := atEnd hi hlt
    subst hi5
    refine Nt_range_end (i := 3) rm rfl (zend hlt) ⟨_, rfl, ?_⟩
    clear ih
    refine ⟨_, rfl, ?_⟩
    apply exu
    case u => walk_at "up"
    exact h D rg
end
section
open PySem PySem.Spec PySem.Calls PyProof.Rows PySem.P
variable {T : TI} {A : Around}
theorem OpW.swap {env : Env} {ℓ : Lo} {C : Cs} {value slice : Expr} {v u w : V} {K} (h : OpW T A C value slice v u w (frK env ℓ K)) : OpW T A C value slice v u w (inH env ℓ K) := ⟨fun s x y z k r1 r2 r3 => wpAny_mono (h.run s x y z k r1 r2 r3) (fun _ _ p => post_swap p) fun _ _ e => e⟩
theorem iV_part {row : List Nat} {n m : Nat} : ((iV row).drop n).take (n + m - n) = zV (((row.drop n).take m).map fun x : Nat => (x : Int)) := by
  rw [Nat.add_sub_cancel_left, iV, zV, List.map_map, ← List.map_drop, ← List.map_take]
  rfl
theorem iV_zV (l : List Nat) : iV l = zV (l.map fun x : Nat => (x : Int)) := by
  rw [iV, zV, List.map_map]; rfl
theorem sum_cast : ∀ l : List Nat, (l.map fun x : Nat => (x : Int)).sum = ((l.sum : Nat) : Int)
  | [] => rfl
  | a :: l => by rw [List.map_cons, List.sum_cons, List.sum_cons, sum_cast l]; omega
theorem sz2 (size i : Nat) : size - (i + 1) - 1 = size - 2 - i := by rw [Nat.sub_sub, Nat.sub_sub, Nat.add_comm 2 i]
theorem lb6 {r s : Nat} (h : r ≤ 50) : r - s + 1 ≤ 1000000 := by omega
theorem lbs {a r s : Nat} (hs : s ≤ r) (h : a < r - s + 1) : a + s ≤ r := by omega
theorem lba {a r s : Nat} (hl : r ≤ 50) (h : a < r - s + 1) : a ≤ 1000000 := by omega
theorem lbt {t s r : Nat} (ht : t = s - 1) (hs : s ≤ r) (hl : r ≤ 50) : t ≤ 1000000 := by omega
theorem cuts_cost {row : List Nat} {t : List (Addr × List Nat)} {size start M : Nat} (h2 : 2 ≤ size) (hst : start + size ≤ row.length)
    (hT : ∀ j s, j + 1 < size → s + j + 1 ≤ row.length → IsC ((row.drop s).take (j + 1)) (tv t j s)) (hM : M ∈ cutsL t size start (size - 1)) (hm : ∀ x ∈ cutsL t size start (size - 1), M ≤ x) :
    IsC ((row.drop start).take size) (((row.drop start).take size).sum + M) := by
  refine cost_step h2 hst hT ?_ fun k k1 k2 => ?_
  · obtain ⟨i, hi, e⟩ := List.mem_map.mp hM
    have hi := List.mem_range.mp hi
    refine ⟨i + 1, Nat.le_add_left 1 i, Nat.add_lt_of_lt_sub hi, ?_⟩
    rw [← e, sz2]
    rfl
  · obtain ⟨k, rfl⟩ : ∃ k', k = k' + 1 := ⟨k - 1, (Nat.sub_add_cancel k1).symm⟩
    refine hm _ (List.mem_map.mpr ⟨k, List.mem_range.mpr (Nat.lt_sub_of_add_lt k2), ?_⟩)
    rw [sz2]
    rfl
theorem level_body (tq : Tq T) (hsum : BuiltIs T (sn "sum") (.builtin "sum")) (hmin : BuiltIs T (sn "min") (.builtin "min")) {k : Nat} {row : List Nat} {R L a tbl : Addr} {pm cd : Value} {P : Cs} {t : List (Addr × List Nat)} {size : Nat} {K : Fl → Lo → Cs → Prop} (rm : Rm A (k + 2)) (coS : CellOf (lcE pm cd L a) (sn "start") (L + 1 + 2)) (h2 : 2 ≤ size) (hs : size ≤ row.length) (hl : row.length ≤ 50)
    (ht : t.length = size - 1) (hlen : ∀ j, j < t.length → (t.getD j (0, [])).2.length = row.length - j)
    (hT : ∀ j s, j + 1 < size → s + j + 1 ≤ row.length → IsC ((row.drop s).take (j + 1)) (tv t j s))
    (h : ∀ lv acc ℓ', acc.length = row.length - size + 1 → (∀ s, s < acc.length → IsC ((row.drop s).take size) (acc.getD s 0)) → Sub [(sn "row", .ref R), (sn "table", .ref tbl), (sn "size", .int size)] ℓ' → K .next ℓ' ((tbl, .list (lvR t ++ [.ref lv])) :: (R, .list (iV row)) :: (lv, .list (iV acc)) :: (lvs t ++ P))) :
    Exs T A (lcE pm cd L a) [(sn "row", .ref R), (sn "table", .ref tbl), (sn "size", .int size)] ((tbl, .list (lvR t)) :: (R, .list (iV row)) :: (lvs t ++ P)) lcOut K := by
  have hrl : (iV row).length = row.length := by simp [iV]
  have hrm : (iV row).length ≤ 1000000 := Nat.le_trans (Nat.le_of_eq hrl) (Nat.le_trans hl (by decide))
  refine Exs_cons ?_
  refine Ex_assign ?_
  refine Ev_list ?_
  refine Evs_nil ?_
  refine ⟨by simp, fun lv => ?_⟩
  apply exu
  case u => walk_at "up"
  refine Exs_cons ?_
  refine Ex_for ?_
  refine Ev_call ?_
  refine Ev_builtin (v := .ty "range") tq.range tq.ng tq.nb (fun _ => rfl) ?_
  refine ⟨_, rfl, ?_⟩
  refine Evs_cons ?_
  refine Ev_binop ?_
  refine Ev_binop ?_
  refine Ev_call ?_
  refine Ev_builtin (v := .bi "len") tq.len tq.ng tq.nb (fun _ => rfl) ?_
  refine ⟨_, rfl, ?_⟩
  refine Evs_cons ?_
  refine Ev_name (v := .ref R) (by walk_at "lk") ?_
  refine Evs_nil ?_
  refine ⟨.inl ⟨_, rfl⟩, Call_len (i := 3) rfl hrm ?_⟩
  refine inI ?_
  refine Ev_cell (v := .int size) (by walk_at "lk") ?_
  refine O_sub ?_
  refine inI ?_
  refine Ev_int ?_
  refine O_add ?_
  refine inI ?_
  refine Evs_nil ?_
  rw [show ((iV row).length : Int) - (size : Int) + 1 = ((row.length - size + 1 : Nat) : Int) by omega]
  refine ⟨.inr (.inl ⟨_, rfl⟩), Call.swap (Call_range fun rg => ⟨_, _, rfl, ?_⟩)⟩
  refine Itr.swap (Itr_rngN (j := 1) (p := 0) (q := row.length - size + 1) (n := row.length - size + 1) rfl rfl rfl (by decide) (lb6 hl) (Nat.zero_add _).symm fun it => ⟨_, _, rfl, ?_⟩)
  refine Fo.perm (H' := (it, .rit 0 ((row.length - size + 1 : Nat) : Int) 1) :: (rg, .rng 0 ((row.length - size + 1 : Nat) : Int) 1) :: (tbl, .list (lvR t)) :: (R, .list (iV row)) :: (lv, .list []) :: (lvs t ++ P)) (by walk_at "pm") ?_
  refine Fo_ind (ι := List Nat) (fun acc ℓ H => ℓ = [(sn "row", .ref R), (sn "table", .ref tbl), (sn "size", .int size), (sn "level", .ref lv)] ∧ acc.length ≤ row.length - size + 1 ∧ (∀ s, s < acc.length → IsC ((row.drop s).take size) (acc.getD s 0)) ∧
    H = (it, .rit (acc.length : Int) ((row.length - size + 1 - acc.length : Nat) : Int) 1) :: (rg, .rng 0 ((row.length - size + 1 : Nat) : Int) 1) :: (tbl, .list (lvR t)) :: (R, .list (iV row)) :: (lv, .list (iV acc)) :: (lvs t ++ P)) (fun acc => row.length - size + 1 - acc.length) ?_ [] ⟨rfl, by simp, fun s hs => absurd hs (by simp), rfl⟩
  rintro acc ℓ H ⟨rfl, hal, hacc, rfl⟩ ih
  refine Fo_step ?_
  by_cases hlt : acc.length < row.length - size + 1
  · refine Nt_range (i := 1) rfl (zpos hlt) ⟨_, rfl, ?_⟩
    refine Asn_nameD coS ?_
    apply exu
    case u => walk_at "up"
    refine Exs_cons ?_
    refine cuts_ex tq (k := k) (size := size) (start := acc.length) rm h2 (Nat.le_trans hs hl) (lbs hs hlt) hl ht hlen fun D rg3 => ?_
    refine Exs_cons ?_
    refine Ex_expr ?_
    refine Ev_method ?_
    refine Ev_name (v := .ref lv) (by walk_at "lk") ?_
    refine ⟨_, GM_list (i := 7) rfl PySem.F.slot_list_append PySem.F.type_list_append, .inl ⟨_, rfl⟩, ?_⟩
    refine Evs_cons ?_
    refine Ev_binop ?_
    refine Ev_call ?_
    refine Ev_builtin (v := .bi "sum") hsum tq.ng tq.nb (fun _ => rfl) ?_
    refine ⟨_, rfl, ?_⟩
    refine Evs_cons ?_
    refine Ev_part ?_
    refine Ev_name (v := .ref R) (by walk_at "lk") ?_
    refine Ev_cell (v := .int acc.length) (by walk_at "lk") ?_
    refine Ev_binop ?_
    refine Ev_cell (v := .int acc.length) (by walk_at "lk") ?_
    refine Ev_cell (v := .int size) (by walk_at "lk") ?_
    refine O_add ?_
    refine inI ?_
    refine OpW.swap (O_part (i := 6) (n := acc.length) (m := acc.length + size) rfl (Nat.le_add_right _ _) (Nat.le_trans (lbs hs hlt) (Nat.le_of_eq hrl.symm)) hrm fun b => ⟨_, _, rfl, ?_⟩)
    refine Evs_nil ?_
    refine ⟨.inl ⟨_, rfl⟩, Call_sumZ (i := 1) (l := ((row.drop acc.length).take size).map fun x : Nat => (x : Int)) rm (congrArg (fun z => some (b, Cell.list z)) iV_part) ?_⟩
    refine inI ?_
    refine Ev_call ?_
    refine Ev_builtin (v := .bi "min") hmin tq.ng tq.nb (fun _ => rfl) ?_
    refine ⟨_, rfl, ?_⟩
    refine Evs_cons ?_
    refine Ev_name (v := .ref D) (by walk_at "lk") ?_
    refine Evs_nil ?_
    refine ⟨.inl ⟨_, rfl⟩, Call_minZ (i := 2) (l := (cutsL t size acc.length (size - 1)).map fun x : Nat => (x : Int)) rm (congrArg (fun z => some (D, Cell.list z)) (iV_zV _)) (by simp [cutsL]; exact Nat.sub_pos_of_lt h2) fun M hM hm => ?_⟩
    obtain ⟨Mn, hMn, rfl⟩ := List.mem_map.mp hM
    have hc := cuts_cost (t := t) h2 (lbs hs hlt) hT hMn (fun x hx => by
      have := hm _ (List.mem_map.mpr ⟨x, hx, rfl⟩)
      exact Int.ofNat_le.mp this)
    refine inI ?_
    refine O_add ?_
    refine inI ?_
    refine Evs_nil ?_
    refine ⟨.inl ⟨_, rfl⟩, Call_append (i := 8) rfl (by simp [iV]; exact lba hl hlt) ?_⟩
    refine ⟨_, rfl, rfl, ?_⟩
    refine Exs_nil ?_
    refine Fo.forget (ℓ' := [(sn "row", .ref R), (sn "table", .ref tbl), (sn "size", .int size), (sn "level", .ref lv)]) (Sub_cons (Sub_cons (Sub_cons (Sub_cons Sub_nil)))) ?_
    refine Fo.drop (.cons _ (.cons _ (.cons _ (.refl _)))) ?_
    have hap : (acc ++ [((row.drop acc.length).take size).sum + Mn]).length = acc.length + 1 := List.length_append
    refine ih (acc ++ [((row.drop acc.length).take size).sum + Mn]) _ _ (dec1e hap hlt) ⟨rfl, Nat.le_trans (Nat.le_of_eq hap) hlt, fun s hs => ?_, ?_⟩
    · rw [List.length_append, List.length_singleton] at hs
      by_cases e : s < acc.length
      · rw [List.getD_eq_getElem?_getD, List.getElem?_append_left e, ← List.getD_eq_getElem?_getD]
        exact hacc s e
      · have : s = acc.length := eqLast hs e
        subst this
        rw [List.getD_eq_getElem?_getD, List.getElem?_append_right (Nat.le_refl _), Nat.sub_self]
        exact hc
    · have e1 : ((acc ++ [((row.drop acc.length).take size).sum + Mn]).length : Int) = (acc.length : Int) + 1 := by rw [hap]; rfl
      have e2 : ((row.length - size + 1 - (acc ++ [((row.drop acc.length).take size).sum + Mn]).length : Nat) : Int) = ((row.length - size + 1 - acc.length : Nat) : Int) - 1 := zdece hap hlt
      have e3 : iV (acc ++ [((row.drop acc.length).take size).sum + Mn]) = iV acc ++ [.int ((((row.drop acc.length).take size).map fun x : Nat => (x : Int)).sum + (Mn : Int))] := by
        rw [iV, List.map_append, List.map_singleton, sum_cast, Int.natCast_add]; rfl
      rw [e1, e2, e3]
      rfl
  · have hal' : acc.length = row.length - size + 1 := atEnd hal hlt
    refine Nt_range_end (i := 1) rm rfl (zend hlt) ⟨_, rfl, ?_⟩
    clear ih
    refine Exs_nil ?_
    refine Exs.drop (.cons _ (.refl _)) ?_
    refine Exs_cons ?_
    refine Ex_expr ?_
    refine Ev_method ?_
    refine Ev_cell (v := .ref tbl) (by walk_at "lk") ?_
    refine ⟨_, GM_list (i := 1) rfl PySem.F.slot_list_append PySem.F.type_list_append, .inl ⟨_, rfl⟩, ?_⟩
    refine Evs_cons ?_
    refine Ev_name (v := .ref lv) (by walk_at "lk") ?_
    refine Evs_nil ?_
    refine ⟨.inl ⟨_, rfl⟩, Call_append (i := 1) rfl (by simp [lvR]; exact lbt ht hs hl) ?_⟩
    refine ⟨_, rfl, rfl, ?_⟩
    refine Exs_nil ?_
    exact h lv acc _ hal' hacc (Sub_cons (Sub_cons (Sub_cons Sub_nil)))
end
section
open PySem PySem.Spec PySem.Calls PyProof.Rows PySem.P
variable {T : TI} {A : Around}
theorem cells3 {u z y x' : Str} {p q r c' : Addr} (h : List.lookup x' [(u, p), (z, q), (y, r)] = some c') : (x' = u ∧ c' = p) ∨ (x' = z ∧ c' = q) ∨ (x' = y ∧ c' = r) := by
  rw [List.lookup_cons] at h
  cases h1 : x' == u with
  | true => rw [h1] at h; cases h; exact .inl ⟨beq_iff_eq.mp h1, rfl⟩
  | false =>
    rw [h1] at h
    have h : List.lookup x' [(z, q), (y, r)] = some c' := h
    rw [List.lookup_cons] at h
    cases h2 : x' == z with
    | true => rw [h2] at h; cases h; exact .inr (.inl ⟨beq_iff_eq.mp h2, rfl⟩)
    | false =>
      rw [h2] at h
      have h : List.lookup x' [(y, r)] = some c' := h
      rw [List.lookup_cons] at h
      cases h3 : x' == y with
      | true => rw [h3] at h; cases h; exact .inr (.inr ⟨beq_iff_eq.mp h3, rfl⟩)
      | false => rw [h3] at h; cases h
theorem lc_cells (pm cd : Value) (L a : Addr) : (lcE pm cd L a).cells = [(sn "start", L + 1 + 2), (sn "size", L + 1 + 1), (sn "table", L + 1)] := by rfl
theorem lc_own (pm cd : Value) (L a : Addr) : ownCells (lcE pm cd L a) = [L + 1 + 2, L + 1 + 1, L + 1] := by rfl
theorem co_table (pm cd : Value) (L a : Addr) : CellOf (lcE pm cd L a) (sn "table") (L + 1) := by
  refine ⟨by kernel_rfl, by kernel_rfl, by rw [lc_own]; simp, fun x' c' h e => ?_⟩
  rw [lc_cells] at h
  rcases cells3 h with ⟨_, h⟩ | ⟨_, h⟩ | ⟨h, _⟩
  · exact absurd (h.symm.trans e) ((fun (q : Nat) => by omega : ∀ q : Nat, q + 1 + 2 ≠ q + 1) L)
  · exact absurd (h.symm.trans e) ((fun (q : Nat) => by omega : ∀ q : Nat, q + 1 + 1 ≠ q + 1) L)
  · exact h
theorem co_size (pm cd : Value) (L a : Addr) : CellOf (lcE pm cd L a) (sn "size") (L + 1 + 1) := by
  refine ⟨by kernel_rfl, by kernel_rfl, by rw [lc_own]; simp, fun x' c' h e => ?_⟩
  rw [lc_cells] at h
  rcases cells3 h with ⟨_, h⟩ | ⟨h, _⟩ | ⟨_, h⟩
  · exact absurd (h.symm.trans e) ((fun (q : Nat) => by omega : ∀ q : Nat, q + 1 + 2 ≠ q + 1 + 1) L)
  · exact h
  · exact absurd (h.symm.trans e) ((fun (q : Nat) => by omega : ∀ q : Nat, q + 1 ≠ q + 1 + 1) L)
theorem co_start (pm cd : Value) (L a : Addr) : CellOf (lcE pm cd L a) (sn "start") (L + 1 + 2) := by
  refine ⟨by kernel_rfl, by kernel_rfl, by rw [lc_own]; simp, fun x' c' h e => ?_⟩
  rw [lc_cells] at h
  rcases cells3 h with ⟨h, _⟩ | ⟨_, h⟩ | ⟨_, h⟩
  · exact h
  · exact absurd (h.symm.trans e) ((fun (q : Nat) => by omega : ∀ q : Nat, q + 1 + 1 ≠ q + 1 + 2) L)
  · exact absurd (h.symm.trans e) ((fun (q : Nat) => by omega : ∀ q : Nat, q + 1 ≠ q + 1 + 2) L)
theorem getD_snoc {α : Type} {t : List α} {x d : α} {j : Nat} : (t ++ [x]).getD j d = if j < t.length then t.getD j d else if j = t.length then x else d := by
  rw [List.getD_eq_getElem?_getD]
  split
  · rename_i h
    rw [List.getElem?_append_left h, ← List.getD_eq_getElem?_getD]
  · rename_i h
    split
    · rename_i e
      subst e
      rw [List.getElem?_append_right (Nat.le_refl _), Nat.sub_self]; rfl
    · rw [List.getElem?_eq_none (by simp; omega)]; rfl
theorem cc1 {a r : Nat} (e : a = r) (h : r ≤ 50) : a + 1 ≤ 1000000 := by omega
theorem cc2 {a r : Nat} (e : a = r) (h : 1 ≤ r) : a + 1 = 2 + (r - 1) := by omega
theorem cc3 {r t : Nat} (h : t < r) : r - (t + 1) + 1 = r - t := by omega
theorem cc4 {s j t r a : Nat} (hs : s + j + 1 ≤ r) (e : j = t) (h : t < r) (ha : a = r - (t + 1) + 1) : s < a := by omega
theorem cc5 {t r : Nat} (h1 : 1 ≤ t) (e : t = r) : 0 < r - (t - 1) := by omega
theorem cost_call (tq : Tq T) (hsum : BuiltIs T (sn "sum") (.builtin "sum")) (hmin : BuiltIs T (sn "min") (.builtin "min")) {k : Nat} {row : List Nat} {R a : Addr} {pm cd : Value} (d : DefAt T a (lcFd pm cd) (fdB (stAt Pr 13))) (rm : Rm A (k + 3)) (h1 : 1 ≤ row.length) (hl : row.length ≤ 50) :
    CallC T A [(R, .list (iV row))] (.ref a) [.ref R] (fun v C' => ∃ c : Nat, v = .int c ∧ IsC row c ∧ C' = []) := by
  refine CallC_cell3 (n := k + 2) (p := sn "row") (y := sn "table") (z := sn "size") (u := sn "start") d rm (fun x => by kernel_rfl) rfl (by kernel_rfl) (fun k => by kernel_rfl) (by kernel_rfl) (by decide +kernel) (by decide +kernel) (by decide +kernel) (fun L => ?_)
  have rm' := rm.deeper (lcE pm cd L a)
  generalize A.deeper (lcE pm cd L a) = A' at rm' ⊢
  have hrl : (iV row).length = row.length := by simp [iV]
  have hrm : (iV row).length ≤ 1000000 := Nat.le_trans (Nat.le_of_eq hrl) (Nat.le_trans hl (by decide))
  refine Exs_cons ?_
  refine Ex_assignD (co_table pm cd L a) ?_
  refine Ev_list ?_
  refine Evs_cons ?_
  refine Ev_binop ?_
  refine Ev_list ?_
  refine Evs_cons ?_
  refine Ev_int ?_
  refine Evs_nil ?_
  refine ⟨by simp, fun z1 => ?_⟩
  refine Ev_call ?_
  refine Ev_builtin (v := .bi "len") tq.len tq.ng tq.nb (fun _ => rfl) ?_
  refine ⟨_, rfl, ?_⟩
  refine Evs_cons ?_
  refine Ev_name (v := .ref R) (by walk_at "lk") ?_
  refine Evs_nil ?_
  refine ⟨.inl ⟨_, rfl⟩, Call_len (i := 2) rfl hrm ?_⟩
  refine inI ?_
  refine OpB.swap (O_mulL (i := 1) (v := .int 0) rfl (by omega) fun z0 => ⟨_, _, rfl, ?_⟩)
  refine Evs_nil ?_
  refine ⟨by simp, fun tbl => ?_⟩
  apply exu
  case u => walk_at "up"
  refine Exs_cons ?_
  refine Ex_for ?_
  refine Ev_call ?_
  refine Ev_builtin (v := .ty "range") tq.range tq.ng tq.nb (fun _ => rfl) ?_
  refine ⟨_, rfl, ?_⟩
  refine Evs_cons ?_
  refine Ev_int ?_
  refine Evs_cons ?_
  refine Ev_binop ?_
  refine Ev_call ?_
  refine Ev_builtin (v := .bi "len") tq.len tq.ng tq.nb (fun _ => rfl) ?_
  refine ⟨_, rfl, ?_⟩
  refine Evs_cons ?_
  refine Ev_name (v := .ref R) (by walk_at "lk") ?_
  refine Evs_nil ?_
  refine ⟨.inl ⟨_, rfl⟩, Call_len (i := 4) rfl hrm ?_⟩
  refine inI ?_
  refine Ev_int ?_
  refine O_add ?_
  refine inI ?_
  refine Evs_nil ?_
  refine ⟨.inr (.inl ⟨_, rfl⟩), Call.swap (Call_range2 fun rg => ⟨_, _, rfl, ?_⟩)⟩
  refine Itr.swap (Itr_rngN (j := 1) (p := 2) (q := (iV row).length + 1) (n := row.length - 1) rfl rfl rfl (by decide) (cc1 hrl hl) (cc2 hrl h1) fun it => ⟨_, _, rfl, ?_⟩)
  refine Fo.drop (H' := [(it, .rit 2 ((row.length - 1 : Nat) : Int) 1), (rg, .rng 2 ((iV row).length + 1) 1), (tbl, .list [.ref z0]), (z0, .list (List.replicate (iV row).length (.int 0))), (R, .list (iV row))]) (.cons_cons _ (.cons_cons _ (.cons_cons _ (.cons_cons _ (.cons _ (.refl _)))))) ?_
  refine Fo.perm (H' := [(it, .rit 2 ((row.length - 1 : Nat) : Int) 1), (rg, .rng 2 ((iV row).length + 1) 1), (tbl, .list [.ref z0]), (R, .list (iV row)), (z0, .list (List.replicate (iV row).length (.int 0)))]) (by walk_at "pm") ?_
  have hz : List.replicate (iV row).length (V.int 0) = iV (List.replicate row.length 0) := by rw [hrl, iV, List.map_replicate]; rfl
  rw [hz]
  refine Fo_ind (ι := List (Addr × List Nat)) (fun t ℓ H => ℓ = [(sn "row", .ref R), (sn "table", .ref tbl)] ∧ 1 ≤ t.length ∧ t.length ≤ row.length ∧ (∀ j, j < t.length → (t.getD j (0, [])).2.length = row.length - j) ∧ (∀ j s, j < t.length → s + j + 1 ≤ row.length → IsC ((row.drop s).take (j + 1)) (tv t j s)) ∧
    H = (it, .rit ((t.length + 1 : Nat) : Int) ((row.length - t.length : Nat) : Int) 1) :: (rg, .rng 2 ((iV row).length + 1) 1) :: (tbl, .list (lvR t)) :: (R, .list (iV row)) :: lvs t) (fun t => row.length - t.length) ?_ [(z0, List.replicate row.length 0)] ⟨rfl, by simp, by simpa using h1, fun j hj => ?_, fun j s hj hs => ?_, rfl⟩
  · rintro t ℓ H ⟨rfl, ht1, ht2, hlen, hT, rfl⟩ ih
    refine Fo_step ?_
    by_cases hlt : t.length < row.length
    · refine Nt_range (i := 1) rfl (zpos hlt) ⟨_, rfl, ?_⟩
      refine Asn_nameD (co_size pm cd L a) ?_
      apply exu
      case u => walk_at "up"
      refine Exs.perm (H' := (tbl, .list (lvR t)) :: (R, .list (iV row)) :: (lvs t ++ [(it, .rit (((t.length + 1 : Nat) : Int) + 1) (((row.length - t.length : Nat) : Int) - 1) 1), (rg, .rng 2 ((iV row).length + 1) 1)])) (List.perm_append_comm (l₁ := [_, _])) ?_
      refine level_body tq hsum hmin (k := k) (size := t.length + 1) (t := t) rm' (co_start pm cd L a) (Nat.succ_le_succ ht1) hlt hl rfl hlen (fun j s hj hs => hT j s (Nat.lt_of_succ_lt_succ hj) hs) fun lv acc ℓ' hal hacc hsub => ?_
      refine Fo.forget hsub ?_
      refine Fo.forget (ℓ' := [(sn "row", .ref R), (sn "table", .ref tbl)]) (Sub_cons (Sub_cons Sub_nil)) ?_
      have hlv : lvs (t ++ [(lv, acc)]) = lvs t ++ [(lv, .list (iV acc))] := by rw [lvs, List.map_append]; rfl
      have hlr : lvR (t ++ [(lv, acc)]) = lvR t ++ [.ref lv] := by rw [lvR, List.map_append]; rfl
      have htl : (t ++ [(lv, acc)]).length = t.length + 1 := List.length_append
      refine Fo.perm ?pm (ih (t ++ [(lv, acc)]) _ _ (dec1e htl hlt) ⟨rfl, by rw [htl]; exact Nat.le_add_left 1 _, by rw [htl]; exact hlt, fun j hj => ?_, fun j s hj hs => ?_, rfl⟩)
      case pm =>
        rw [hlv, hlr, htl, show ((row.length - (t.length + 1) : Nat) : Int) = ((row.length - t.length : Nat) : Int) - 1 from (zdec hlt).symm, show ((t.length + 1 + 1 : Nat) : Int) = ((t.length + 1 : Nat) : Int) + 1 from rfl]
        refine (List.Perm.append_left [_, _, _] List.perm_append_comm).trans (List.Perm.trans ?_ (List.Perm.append_left [_, _, _, _] (List.perm_append_comm (l₁ := [_]))))
        show (_ :: _ :: _ :: _ :: _ :: lvs t).Perm (_ :: _ :: _ :: _ :: _ :: lvs t)
        walk_at "pm"
        try exact List.Perm.refl _
      · rw [getD_snoc]
        rw [htl] at hj
        by_cases e : j < t.length
        · rw [if_pos e]; exact hlen j e
        · have : j = t.length := eqLast hj e
          rw [if_neg e, if_pos this, this]
          exact hal.trans (cc3 hlt)
      · rw [htl] at hj
        unfold tv
        rw [getD_snoc]
        by_cases e : j < t.length
        · rw [if_pos e]; exact hT j s e hs
        · have : j = t.length := eqLast hj e
          rw [if_neg e, if_pos this, this]
          exact hacc s (cc4 hs this hlt hal)
    · have htn : t.length = row.length := atEnd ht2 hlt
      refine Nt_range_end (i := 1) rm' rfl (zend hlt) ⟨_, rfl, ?_⟩
      clear ih
      obtain ⟨a1, a2⟩ := lvs_at (P := []) (t := t) (j := t.length - 1) (Nat.sub_lt ht1 Nat.one_pos)
      rw [List.append_nil] at a1
      have hlR : (lvR t).length = t.length := by simp [lvR]
      refine Exs_nil ?_
      refine Exs_cons ?_
      refine Ex_return ?_
      refine Ev_sub ?_
      refine Ev_sub ?_
      refine Ev_cell (v := .ref tbl) (by walk_at "lk") ?_
      refine Ev_neg1 ?_
      refine Ev_int ?_
      refine ⟨_, rfl, ?_⟩
      refine O_item_last (i := 2) (v := .ref (t.getD (t.length - 1) (0, [])).1) rfl (by rw [hlR]; exact ht1) (by rw [hlR]; exact a2) (by rw [hlR, htn]; exact Nat.le_trans hl (by decide)) ?_
      refine inI ?_
      refine Ev_int ?_
      refine O_itemN (i := t.length - 1 + 4) (n := 0) (v := .int (tv t (t.length - 1) 0)) a1 rfl (by decide) (iV_at (by rw [hlen _ (Nat.sub_lt ht1 Nat.one_pos)]; exact cc5 ht1 htn)) ?_
      refine inI ?_
      refine ⟨[], Turn.drop (List.nil_sublist _), _, rfl, ?_, rfl⟩
      have := hT (t.length - 1) 0 (Nat.sub_lt ht1 Nat.one_pos) (by omega)
      rw [List.drop_zero, List.take_of_length_le (by omega)] at this
      exact this
  · have : j = 0 := by simpa using hj
    subst this
    simp
  · have : j = 0 := by simpa using hj
    subst this
    have e : tv [(z0, List.replicate row.length 0)] 0 s = 0 := by
      show (List.replicate row.length 0).getD s 0 = 0
      rw [List.getD_eq_getElem?_getD, List.getElem?_eq_getElem (by simp; omega)]
      simp
    rw [e]
    exact cost_one (by omega)
end
section
open PySem PySem.Spec PySem.Calls PyProof.Rows PySem.P
noncomputable def fixd : List Nat := [17, 170, 333, 58, 131, 96, 252, 295, 214]
noncomputable def md6 (x : Int) : Nat := (x.fmod 1000000).toNat
noncomputable def figsOf (l : List Int) : List Nat := ((l.take 63).map md6 ++ fixd).take (9 + (l.take 63).length % 2)
theorem md6_eq (x : Int) : x.fmod 1000000 = (md6 x : Int) := by
  have : 0 ≤ x.fmod 1000000 := Int.fmod_nonneg_of_pos x (by omega)
  unfold md6; omega
theorem iV_app (a b : List Nat) : iV (a ++ b) = iV a ++ iV b := List.map_append
theorem figs_len (l : List Int) : (figsOf l).length = 9 + (l.take 63).length % 2 := by
  unfold figsOf
  rw [List.length_take, List.length_append, List.length_map]
  have : fixd.length = 9 := rfl
  omega
theorem figs_lt (l : List Int) : ∀ f ∈ figsOf l, f < 1000000 := by
  intro f hf
  unfold figsOf at hf
  have h1 := List.mem_of_mem_take hf
  rcases List.mem_append.mp h1 with h | h
  · obtain ⟨x, _, rfl⟩ := List.mem_map.mp h
    have h1 : x.fmod 1000000 < 1000000 := Int.fmod_lt_of_pos x (by omega)
    have h2 := md6_eq x
    omega
  · have : ∀ f ∈ fixd, f < 1000000 := by decide
    exact this f h
theorem iV_take (a : List Nat) (n : Nat) : iV (a.take n) = (iV a).take n := List.map_take
theorem Sub_add {ℓ' ℓ : Lo} {x : Str} {v : V} (hv : ℓ.lookup x = some v) (h : Sub ℓ' ℓ) : Sub ((x, v) :: ℓ') ℓ := fun y w e => by
  rw [List.lookup_cons] at e
  cases hb : y == x with
  | true => rw [hb] at e; cases e; cases beq_iff_eq.mp hb; exact hv
  | false => rw [hb] at e; exact h y w e
variable {T : TI} {A : Around} {Cl N : Addr} {mN : Str → Option Value}
noncomputable abbrev lawFd (pm cd : Value) : FuncData := fdOf (sn "law") pm cd (stAt Pr 14)
noncomputable abbrev lawE (pm cd : Value) (L a : Addr) : Env := callEnv (lawFd pm cd) L a
theorem law_figs (tq : Tq T) {k : Nat} {l : List Int} {Sx L a : Addr} {pm cd : Value} {K : Fl → Lo → Cs → Prop} (rm : Rm A (k + 2)) (hS : TopInts T Sx l) (hl : l.length ≤ 10000000)
    (h : ∀ F, Exs T A (lawE pm cd L a) [(sn "figures", .ref F)] [(F, .list (iV (figsOf l))), (T.tb, .tab)] ((fdB (stAt Pr 14)).drop 2) K) :
    Exs T A (lawE pm cd L a) [(sn "script", .ref Sx)] [(T.tb, .tab)] (fdB (stAt Pr 14)) K := by
  have hl63 : (l.take 63).length ≤ 63 := by simp; omega
  refine Exs_cons ?_
  refine Ex_assign ?_
  refine Ev_list ?_
  repeat walk_at "ev"
  refine ⟨by simp, fun FX => ?_⟩
  apply exu
  case u => walk_at "up"
  refine Exs_cons ?_
  refine Ex_assign ?_
  refine Ev_upto ?_
  refine Ev_binop ?_
  refine Ev_comp [] ?_
  refine Ev_upto ?_
  repeat walk_at "ev"
  refine OpU.swap (O_upto_top hS (by omega) hl fun b => ⟨_, _, rfl, ?_⟩)
  refine Itr.swap (Itr_list (j := 1) rfl fun it => ⟨_, _, rfl, fun D LC => ⟨Self_lit (i := 3) rfl, ?_⟩⟩)
  refine Cm_ind (ι := Nat) (fun i ℓ H => ℓ = [] ∧ H = [lc (lawE pm cd L a) [(sn "script", V.ref Sx), (sn "fixed", V.ref FX)], (D, .list (iV (((l.take 63).take i).map md6))), (it, .lit b i), (b, .list (zV (l.take 63))), (FX, .list (iV fixd)), (T.tb, .tab)] ∧ i ≤ (l.take 63).length) (fun i => (l.take 63).length - i) ?_ 0 ⟨rfl, rfl, by simp⟩
  rintro i ℓ H ⟨rfl, rfl, hi⟩ ih
  refine Cm_step ?_
  by_cases hlt : i < (l.take 63).length
  · refine Nt_list (i := 3) (j := 4) (v := .int (l.take 63)[i]) rfl rfl (by rw [zV, List.getElem?_map, List.getElem?_eq_getElem hlt]; rfl) ⟨_, rfl, ?_⟩
    refine Asn_name ?_
    repeat walk_at "ev"
    refine O_pow (by omega) (by omega) (by decide) ?_
    repeat walk_at "ev"
    refine O_fmod (by decide) ?_
    rw [show ((10 : Int) ^ (6 : Int).toNat) = 1000000 from by decide, md6_eq]
    refine ⟨_, rfl, 1, _, rfl, by simp [iV]; omega, ?_⟩
    refine Cm.forget (ℓ' := []) Sub_nil ?_
    refine ih (i + 1) _ _ (dec1 hlt) ⟨rfl, ?_, hlt⟩
    have e1 : (l.take 63).take (i + 1) = (l.take 63).take i ++ [(l.take 63)[i]] := by
      rw [List.take_add_one, List.getElem?_eq_getElem hlt]; rfl
    rw [e1, List.map_append, iV_app]
    rfl
  · have hie : i = (l.take 63).length := by omega
    subst hie
    refine Nt_list_end (i := 3) (j := 4) rm rfl rfl (by simp [zV]) ⟨_, rfl, ?_⟩
    clear ih
    rw [List.take_length]
    refine ⟨_, rfl, ?_⟩
    repeat walk_at "ev"
    refine OpB.swap (O_addl (i := 1) (j := 3) rfl rfl (by simp only [iV, List.length_map]; have : fixd.length = 9 := rfl; omega) fun c => ⟨_, _, rfl, ?_⟩)
    refine Ev_binop ?_
    refine Ev_int ?_
    refine Ev_binop ?_
    refine Ev_call ?_
    refine Ev_builtin (v := .bi "len") tq.len tq.ng tq.nb (fun _ => rfl) ?_
    refine ⟨_, rfl, ?_⟩
    refine Evs_cons ?_
    refine Ev_upto ?_
    repeat walk_at "ev"
    refine OpU.swap (O_upto_top hS (by omega) hl fun b2 => ⟨_, _, rfl, ?_⟩)
    repeat walk_at "ev"
    have hz : (zV (l.take (Int.toNat 63))).length = (l.take 63).length := by simp [zV]
    refine ⟨.inl ⟨_, rfl⟩, Call_len (i := 1) rfl (by omega) ?_⟩
    repeat walk_at "ev"
    refine O_fmod (by decide) ?_
    repeat walk_at "ev"
    have hn : ((9 : Int) + ((zV (l.take (Int.toNat 63))).length : Int).fmod 2) = ((9 + (l.take 63).length % 2 : Nat) : Int) := by
      rw [hz, Int.fmod_eq_emod_of_nonneg _ (by omega)]; omega
    rw [hn]
    refine OpU.swap (O_upto_list (i := 2) rfl (by omega) (by simp only [iV, List.length_map, List.length_append]; have : fixd.length = 9 := rfl; omega) fun F => ⟨_, _, rfl, ?_⟩)
    have hfig : (iV ((l.take 63).map md6) ++ iV fixd).take (Int.toNat ((9 + (l.take 63).length % 2 : Nat) : Int)) = iV (figsOf l) := by
      unfold figsOf
      rw [iV_take, iV_app]; rfl
    rw [hfig]
    apply exu
    case u => walk_at "up"
    refine Exs.drop (H' := [(F, .list (iV (figsOf l))), (T.tb, .tab)]) (.cons_cons _ (by simp)) ?_
    exact Exs.forget (Sub_add (by walk_at "lk") Sub_nil) (h F)
end
section
open PySem PySem.Spec PySem.Calls PyProof.Rows PySem.P
variable {T : TI} {A : Around} {Cl N : Addr} {mN : Str → Option Value}
noncomputable def txtOf (figs : List Nat) (qs : List (Nat × Nat)) : List Nat := qs.flatMap fun q => pc q.1 (figs.getD q.2 0)
theorem law_lex (tq : Tq T) (tc : Tc T Cl N mN) {mg : Str → Option Value} (tn : Tn T mg Cl) {k : Nat} {figs : List Nat} {F L a aF : Addr} {pm cd pmF cdF : Value} {K : Fl → Lo → Cs → Prop} (rm : Rm A (k + 10)) (h2 : 2 ≤ figs.length) (hl : figs.length ≤ 50) (hf : ∀ f ∈ figs, f < 1000000)
    (hgF : GlobIs T (sn "_law_file") (.ref aF)) (dF : DefAt T aF (fdOf (sn "_law_file") pmF cdF (stAt Pr 10)) (fdB (stAt Pr 10)))
    (h : ∀ qs c' m1 m2, qs.Perm (prsOf figs) → qs.Pairwise (fun x y => x.1 ≤ y.1) → Exs T A (lawE pm cd L a) [(sn "figures", .ref F), (sn "text", .str (S (txtOf figs qs))), (sn "leaves", .ref m1.x), (sn "sums", .ref m2.x)]
      ((F, .list (iV figs)) :: (T.tb, .tab1 c' tpos rdQ) :: (mc Cl c' m1 1 (txtOf figs qs) [] ++ mc Cl c' m2 1 [] [])) ((fdB (stAt Pr 14)).drop 5) K) :
    Exs T A (lawE pm cd L a) [(sn "figures", .ref F)] [(F, .list (iV figs)), (T.tb, .tab)] ((fdB (stAt Pr 14)).drop 2) K := by
  obtain ⟨aT, pmT, hgT, dT⟩ := tn.tape
  refine Exs_cons ?_
  refine Ex_assign ?_
  refine Ev_call ?_
  refine Ev_glob hgF tq.ng ?_
  refine ⟨_, rfl, ?_⟩
  repeat walk_at "ev"
  refine ⟨dF.callee _, ?_⟩
  refine Call.framed (file_call tq (k := k + 6) dF rm h2 hl hf) (List.perm_middle (l₁ := [_])) ?_
  rintro _ _ ⟨qs, hq1, hq2, rfl, rfl⟩
  refine ⟨_, List.perm_middle (l₁ := [_]), _, rfl, ?_⟩
  have htx : (txtOf figs qs).length ≤ 100000 := by
    have h1 := file_len (fun q => figs.getD q.2 0) qs (fun q hq => by
      obtain ⟨y, hy, rfl⟩ := List.mem_map.mp (hq1.mem_iff.mp hq)
      show y.1 % 40 < 10 ^ 6
      omega)
    have h2 : qs.length = figs.length := by rw [hq1.length_eq]; simp [prsOf]
    have h3 : (txtOf figs qs).length ≤ 24 * qs.length := h1
    omega
  have htxt : (qs.flatMap fun q => pc q.1 (figs.getD q.2 0)) = txtOf figs qs := rfl
  rw [htxt]
  have h' := fun c' m1 m2 => h qs c' m1 m2 hq1 hq2
  clear h htxt
  generalize txtOf figs qs = text at *
  apply exu
  case u => walk_at "up"
  refine Exs_cons ?_
  refine Ex_assign ?_
  refine Ev_call ?_
  refine Ev_glob tn.cls tq.ng ?_
  refine ⟨_, rfl, ?_⟩
  refine Evs_cons ?_
  refine Ev_call ?_
  refine Ev_glob hgT tq.ng ?_
  refine ⟨_, rfl, ?_⟩
  repeat walk_at "ev"
  refine ⟨dT.callee _, ?_⟩
  refine Call.framed (C := [_]) (tape_call tq tc tn (k := k + 6) (text := text) (tab := .tab) (K := fun v C' => ∃ t d2 pb2 f c left doc ctv c'', v = .ref t ∧ C' = [(t, .inst Cl d2 (tapA pb2 f)), (f, .clo (rdFd c doc ((mg "__name__").getD .none) c'' ctv) c (.ref left)), (left, .list (chs text)), (T.tb, .tab1 c'' tpos rdQ)]) dT rm htx (.inl rfl) (fun t d2 pb2 f c left doc ctv c'' hc => ⟨t, d2, pb2, f, c, left, doc, ctv, c'', rfl, rfl⟩)) (List.perm_middle (l₁ := [_, _])) ?_
  rintro _ _ ⟨t, d2, pb2, f, c, left, doc, ctv, c', rfl, rfl⟩
  refine ⟨_, List.perm_middle (l₁ := [_, _, _, _]), _, rfl, ?_⟩
  refine Evs_nil ?_
  refine ⟨tc.cls.callee _, Call.swapL (class_call tc (k := k + 8) rm fun x d pb => ⟨[_, _], _, rfl, ?_⟩)⟩
  apply exu
  case u => walk_at "up"
  refine Exs_cons ?_
  refine Ex_assign ?_
  refine Ev_call ?_
  refine Ev_glob tn.cls tq.ng ?_
  refine ⟨_, rfl, ?_⟩
  refine Evs_cons ?_
  refine Ev_call ?_
  refine Ev_glob hgT tq.ng ?_
  refine ⟨_, rfl, ?_⟩
  repeat walk_at "ev"
  refine ⟨dT.callee _, ?_⟩
  refine Call.framed (C := [_]) (tape_call tq tc tn (k := k + 6) (text := []) (tab := .tab1 c' tpos rdQ) (K := fun v C' => ∃ t d2 pb2 f c left doc ctv, v = .ref t ∧ C' = [(t, .inst Cl d2 (tapA pb2 f)), (f, .clo (rdFd c doc ((mg "__name__").getD .none) c' ctv) c (.ref left)), (left, .list (chs [])), (T.tb, .tab1 c' tpos rdQ)]) dT rm (by simp) (.inr ⟨_, rfl⟩) (fun t d2 pb2 f c left doc ctv c'' hc => by
    cases hc c' rfl
    exact ⟨t, d2, pb2, f, c, left, doc, ctv, rfl, rfl⟩)) (List.perm_middle (l₁ := [_, _, _, _, _, _])) ?_
  rintro _ _ ⟨t', d2', pb2', f', c1, left', doc', ctv', rfl, rfl⟩
  refine ⟨_, List.perm_middle (l₁ := [_, _, _, _]), _, rfl, ?_⟩
  refine Evs_nil ?_
  refine ⟨tc.cls.callee _, Call.swapL (class_call tc (k := k + 8) rm fun x' d' pb' => ⟨[_, _], _, rfl, ?_⟩)⟩
  apply exu
  case u => walk_at "up"
  refine Exs.perm ?_ (h' c' ⟨x, d, pb, t, d2, pb2, f, c, left, doc, (mg "__name__").getD .none, ctv⟩ ⟨x', d', pb', t', d2', pb2', f', c1, left', doc', (mg "__name__").getD .none, ctv'⟩)
  show (_ :: _ :: _ :: _ :: _ :: _ :: _ :: _ :: _ :: _ :: _ :: [_]).Perm (_ :: _ :: _ :: _ :: _ :: _ :: _ :: _ :: _ :: _ :: _ :: [_])
  walk_at "pm"
end
section
open PySem PySem.Spec PySem.Calls PyProof.Rows PySem.P
variable {T : TI} {A : Around} {Cl N : Addr} {mN : Str → Option Value}
theorem law_lines (tq : Tq T) (tc : Tc T Cl N mN) (hint : BuiltIs T (sn "int") (.type "int")) {k : Nat} {figs : List Nat} {qs : List (Nat × Nat)} {F L a aB aP c' : Addr} {oP : Obj} {m1 m2 : MA} {pm cd pmB cdB pmP cdP : Value} {K : Fl → Lo → Cs → Prop} (rm : Rm A (k + 12)) (h2 : 2 ≤ figs.length) (hl : figs.length ≤ 50)
    (hmP : mN (sn "push_token") = some (.ref aP)) (hoP : T.h₁.get? aP = some oP) (hocP : oP.cls = .type "function") (dP : DefAt T aP (fdOf (sn "_netrclex.push_token") pmP cdP (mth 3)) (fdB (mth 3)))
    (hgB : GlobIs T (sn "_law_by_lines") (.ref aB)) (dB : DefAt T aB (fdOf (sn "_law_by_lines") pmB cdB (stAt Pr 11)) (fdB (stAt Pr 11)))
    (hq1 : qs.Perm (prsOf figs)) (hq2 : qs.Pairwise (fun x y => x.1 ≤ y.1))
    (h : ∀ td fr x, hsE (figs.length - 1) (qs.map Prod.fst) = [x] → x < 100000 → Exs T A (lawE pm cd L a) [(sn "figures", .ref F), (sn "text", .str (S (txtOf figs qs))), (sn "leaves", .ref m1.x), (sn "sums", .ref m2.x), (sn "told", .ref td), (sn "fronts", .ref fr)]
      ((td, .list (iV (hs (figs.length - 1) (qs.map Prod.fst)))) :: (fr, .list [.str (S []), .str (S (dg x))]) :: (F, .list (iV figs)) :: (T.tb, .tab1 c' tpos rdQ) :: (mc Cl c' m1 (1 + (((txtOf figs qs).count 10 : Nat) : Int)) [] [] ++ mc Cl c' m2 1 [] [])) ((fdB (stAt Pr 14)).drop 6) K) :
    Exs T A (lawE pm cd L a) [(sn "figures", .ref F), (sn "text", .str (S (txtOf figs qs))), (sn "leaves", .ref m1.x), (sn "sums", .ref m2.x)]
      ((F, .list (iV figs)) :: (T.tb, .tab1 c' tpos rdQ) :: (mc Cl c' m1 1 (txtOf figs qs) [] ++ mc Cl c' m2 1 [] [])) ((fdB (stAt Pr 14)).drop 5) K := by
  have hql : qs.length = figs.length := by rw [hq1.length_eq]; simp [prsOf]
  have hp : (qs.map Prod.fst).Perm (figs.map (· % 40)) := by rw [← prs_fst]; exact hq1.map _
  have hlt : ∀ x ∈ qs.map Prod.fst, x < 40 := fun x hx => by
    obtain ⟨y, _, rfl⟩ := List.mem_map.mp (hp.mem_iff.mp hx)
    exact Nat.mod_lt _ (by omega)
  have hsm : (qs.map Prod.fst).sum < 100000 := by
    have := w_sum _ hlt
    rw [List.length_map] at this
    omega
  have hL := file_lex (fun q => figs.getD q.2 0) qs [] 1 (by simp)
  have hln : (txtOf figs qs).length ≤ 100000 := by
    have h1 : (txtOf figs qs).length ≤ 24 * qs.length := file_len (fun q => figs.getD q.2 0) qs (fun q hq => by
      have := hlt q.1 (List.mem_map.mpr ⟨q, hq, rfl⟩)
      omega)
    omega
  have hF : (iV figs).length = figs.length := by simp [iV]
  refine Exs_cons ?_
  refine Ex_assignT ?_
  refine Ev_call ?_
  refine Ev_glob hgB tq.ng ?_
  refine ⟨_, rfl, ?_⟩
  refine Evs_cons ?_
  refine Ev_name (v := .ref m1.x) (by walk_at "lk") ?_
  refine Evs_cons ?_
  refine Ev_name (v := .ref m2.x) (by walk_at "lk") ?_
  refine Evs_cons ?_
  refine Ev_binop ?_
  refine Ev_call ?_
  refine Ev_builtin (v := .bi "len") tq.len tq.ng tq.nb (fun _ => rfl) ?_
  refine ⟨_, rfl, ?_⟩
  refine Evs_cons ?_
  refine Ev_name (v := .ref F) (by walk_at "lk") ?_
  refine Evs_nil ?_
  refine ⟨.inl ⟨_, rfl⟩, Call_len (i := 1) rfl (by omega) ?_⟩
  refine inI ?_
  refine Ev_int ?_
  refine O_sub ?_
  refine inI ?_
  refine Evs_nil ?_
  rw [show ((iV figs).length : Int) - 1 = ((figs.length - 1 : Nat) : Int) by omega]
  refine ⟨dB.callee _, ?_⟩
  refine Call.framed (by_lines_call tq tc hint (k := k) (n := figs.length - 1) (sl := qs.map Prod.fst) hmP hoP hocP dP dB rm (by rw [List.length_map]; omega) (by omega) (by omega) (List.pairwise_map.mpr hq2) hsm hL hln) (List.perm_append_comm (l₁ := [_, _])) ?_
  rintro _ _ ⟨td, fr, x, rfl, hx1, hx2, rfl⟩
  refine ⟨_, (List.perm_append_comm (l₂ := [_, _])).trans (List.Perm.cons _ (pk2 (List.Perm.refl _))), _, rfl, ?_⟩
  refine Asn_tuple rm (Asns_cons (Asn_name ?_))
  apply exu
  case u => walk_at "up"
  refine Asns_cons (Asn_name ?_)
  apply exu
  case u => walk_at "up"
  refine Asns_nil ?_
  exact h td fr x hx1 hx2
end
section
open PySem PySem.Spec PySem.Calls PyProof.Rows PySem.P
variable {T : TI} {A : Around} {Cl N : Addr} {mN : Str → Option Value}
theorem fmod40 (f : Nat) : (f : Int).fmod 40 = ((f % 40 : Nat) : Int) := by
  rw [Int.fmod_eq_emod_of_nonneg _ (by omega)]; omega
theorem law_heap {k : Nat} {figs : List Nat} {F L a td fr x1 x2 : Addr} {tx : V} {u1 u2 : Cell} {pm cd : Value} {R : Cs} {K : Fl → Lo → Cs → Prop} (rm : Rm A (k + 2)) (hl : figs.length ≤ 50)
    (h : ∀ D, Exs T A (lawE pm cd L a) [(sn "figures", .ref F), (sn "text", tx), (sn "leaves", .ref x1), (sn "sums", .ref x2), (sn "told", .ref td), (sn "fronts", .ref fr), (sn "heap", .ref D)]
      ((D, .list (iV (figs.map (· % 40)))) :: (td, u1) :: (fr, u2) :: (F, .list (iV figs)) :: R) ((fdB (stAt Pr 14)).drop 7) K) :
    Exs T A (lawE pm cd L a) [(sn "figures", .ref F), (sn "text", tx), (sn "leaves", .ref x1), (sn "sums", .ref x2), (sn "told", .ref td), (sn "fronts", .ref fr)]
      ((td, u1) :: (fr, u2) :: (F, .list (iV figs)) :: R) ((fdB (stAt Pr 14)).drop 6) K := by
  refine Exs_cons ?_
  refine Ex_comp [] ?_
  refine Ev_name (v := .ref F) (by walk_at "lk") ?_
  refine Itr.swap (Itr_list (j := 3) rfl fun it => ⟨_, _, rfl, fun D LC => ⟨Self_lit (i := 3) rfl, ?_⟩⟩)
  refine Cm_ind (ι := Nat) (fun i ℓ H => ℓ = [] ∧ H = lc (lawE pm cd L a) [(sn "figures", .ref F), (sn "text", tx), (sn "leaves", .ref x1), (sn "sums", .ref x2), (sn "told", .ref td), (sn "fronts", .ref fr)] :: (D, .list (iV ((figs.take i).map (· % 40)))) :: (it, .lit F i) :: (td, u1) :: (fr, u2) :: (F, .list (iV figs)) :: R ∧ i ≤ figs.length) (fun i => figs.length - i) ?_ 0 ⟨rfl, rfl, by simp⟩
  rintro i ℓ H ⟨rfl, rfl, hi⟩ ih
  refine Cm_step ?_
  by_cases hlt : i < figs.length
  · refine Nt_list (i := 3) (j := 6) (v := .int ((figs[i] : Nat) : Int)) rfl rfl (by rw [iV, List.getElem?_map, List.getElem?_eq_getElem hlt]; rfl) ⟨_, rfl, ?_⟩
    refine Asn_name ?_
    apply exu
    case u => walk_at "up"
    refine Ev_binop ?_
    refine Ev_name (by walk_at "lk") ?_
    refine Ev_int ?_
    refine O_fmod (by decide) ?_
    rw [fmod40]
    refine ⟨_, rfl, 1, _, rfl, by simp [iV]; omega, ?_⟩
    refine Cm.forget (ℓ' := []) Sub_nil ?_
    refine ih (i + 1) _ _ (dec1 hlt) ⟨rfl, ?_, hlt⟩
    have e1 : figs.take (i + 1) = figs.take i ++ [figs[i]] := by
      rw [List.take_add_one, List.getElem?_eq_getElem hlt]; rfl
    rw [e1, List.map_append, iV_app]
    rfl
  · have hie : i = figs.length := by omega
    subst hie
    refine Nt_list_end (i := 3) (j := 6) rm rfl rfl (by simp [iV]) ⟨_, rfl, ?_⟩
    clear ih
    rw [List.take_length]
    refine ⟨_, rfl, ?_⟩
    apply exu
    case u => walk_at "up"
    exact h D
end
section
open PySem PySem.Spec PySem.Calls PyProof.Rows PySem.P
variable {T : TI} {A : Around} {Cl N : Addr} {mN : Str → Option Value}
theorem ifF {p q : Prop} (h : q) : if false = true then p else q := h
theorem law_test1 (tq : Tq T) {k : Nat} {figs sl : List Nat} {F L a aH D td fr x1 x2 : Addr} {x : Nat} {tx : V} {pm cd pmH cdH : Value} {R : Cs} {K : Fl → Lo → Cs → Prop} (rm : Rm A (k + 12)) (h2 : 2 ≤ figs.length) (hl : figs.length ≤ 50)
    (hgH : GlobIs T (sn "_law_by_heap") (.ref aH)) (dH : DefAt T aH (fdOf (sn "_law_by_heap") pmH cdH (stAt Pr 12)) (fdB (stAt Pr 12)))
    (hp : sl.Perm (figs.map (· % 40))) (hs' : sl.Pairwise (· ≤ ·)) (hx : hsE (figs.length - 1) sl = [x]) (hx2 : x < 100000)
    (h : Exs T A (lawE pm cd L a) [(sn "figures", .ref F), (sn "text", tx), (sn "leaves", .ref x1), (sn "sums", .ref x2), (sn "told", .ref td)]
      ((td, .list (iV (hs (figs.length - 1) sl))) :: (F, .list (iV figs)) :: R) ((fdB (stAt Pr 14)).drop 8) K) :
    Exs T A (lawE pm cd L a) [(sn "figures", .ref F), (sn "text", tx), (sn "leaves", .ref x1), (sn "sums", .ref x2), (sn "told", .ref td), (sn "fronts", .ref fr), (sn "heap", .ref D)]
      ((D, .list (iV (figs.map (· % 40)))) :: (td, .list (iV (hs (figs.length - 1) sl))) :: (fr, .list [.str (S []), .str (S (dg x))]) :: (F, .list (iV figs)) :: R) ((fdB (stAt Pr 14)).drop 7) K := by
  refine Exs_cons ?_
  refine Ex_if ?_
  refine Tr_or3 ?_
  refine Tr_compare ?_
  refine Ev_call ?_
  refine Ev_glob hgH tq.ng ?_
  refine ⟨_, rfl, ?_⟩
  refine Evs_cons ?_
  refine Ev_name (v := .ref D) (by walk_at "lk") ?_
  refine Evs_nil ?_
  refine ⟨dH.callee _, ?_⟩
  refine Call.framed (by_heap_call tq (k := k + 2) (n := figs.length - 1) (sl := sl) dH rm (by rw [List.length_map]; omega) (by omega) hp hs') (List.perm_middle (l₁ := [_])) ?_
  rintro _ _ ⟨t2, vs, rfl, hvs, rfl⟩
  rw [hx] at hvs
  have hv : vs = [.int (x : Int)] := List.perm_singleton.mp hvs
  subst hv
  refine ⟨_, List.perm_middle (l₁ := [_, _]), _, rfl, ?_⟩
  refine Ev_name (v := .ref td) (by walk_at "lk") ?_
  have hsl : sl.length = figs.length - 2 + 2 := by rw [hp.length_eq, List.length_map]; omega
  obtain ⟨ys, x', e1, e2⟩ := hs_last (figs.length - 2) sl hsl
  rw [show figs.length - 2 + 1 = figs.length - 1 by omega] at e1 e2
  have ex : x' = x := by rw [hx] at e2; injection e2 with e2; exact e2.symm
  subst ex
  have hlast : (iV (hs (figs.length - 1) sl))[(iV (hs (figs.length - 1) sl)).length - 1]? = some (.int (x' : Int)) := by
    rw [e1, iV_app]
    simp [iV]
  have hll : (iV (hs (figs.length - 1) sl)).length = figs.length - 1 := by
    rw [iV, List.length_map, hs_len _ _ (by omega)]
  refine O_nel (n := 0) (i := 1) (j := 3) (rm.le (by omega)) rfl rfl (fun v hv => by
    obtain ⟨n, _, rfl⟩ := List.mem_map.mp hv
    exact .int _ _) ⟨_, rfl, _, rfl, ?_⟩
  refine ifF ?_
  refine Tr_compare ?_
  refine Ev_name (v := .ref D) (by walk_at "lk") ?_
  refine Ev_list ?_
  refine Evs_cons ?_
  refine Ev_sub ?_
  refine Ev_name (v := .ref td) (by walk_at "lk") ?_
  refine Ev_neg1 ?_
  refine Ev_int ?_
  refine ⟨_, rfl, ?_⟩
  refine O_item_last (i := 3) (v := .int (x' : Int)) rfl (by omega) hlast (by omega) ?_
  refine inI ?_
  refine Evs_nil ?_
  refine ⟨by simp, fun l1 => ?_⟩
  refine O_nel (n := 0) (i := 3) (j := 1) (rm.le (by omega)) rfl rfl (fun v hv => by
    cases List.mem_singleton.mp hv
    exact .int _ _) ⟨_, rfl, _, rfl, ?_⟩
  refine ifF ?_
  refine Tr_compare ?_
  refine Ev_name (v := .ref fr) (by walk_at "lk") ?_
  refine Ev_list ?_
  refine Evs_cons ?_
  refine Ev_str ?_
  refine Evs_cons ?_
  refine Ev_binop ?_
  refine Ev_str ?_
  refine Ev_sub ?_
  refine Ev_name (v := .ref td) (by walk_at "lk") ?_
  refine Ev_neg1 ?_
  refine Ev_int ?_
  refine ⟨_, rfl, ?_⟩
  refine O_item_last (i := 4) (v := .int (x' : Int)) rfl (by omega) hlast (by omega) ?_
  refine inI ?_
  refine O_fmt (n := x') (by omega) ?_
  refine inI ?_
  refine Evs_nil ?_
  refine ⟨by simp, fun l2 => ?_⟩
  refine O_nel (n := 0) (i := 6) (j := 1) (vs := [.str (S []), .str (S (dg x'))]) (rm.le (by omega)) rfl rfl (fun v hv => by
    rcases List.mem_cons.mp hv with rfl | hv
    · exact .str _ _
    · cases List.mem_singleton.mp hv
      exact .str _ _) ⟨_, rfl, _, rfl, ?_⟩
  refine ifF ?_
  refine Exs_nil ?_
  refine Exs.drop (.cons _ (.cons _ (.cons _ (.cons _ (.cons_cons _ (.cons _ (.refl _))))))) ?_
  exact Exs.forget (Sub_cons (Sub_cons (Sub_cons (Sub_cons (Sub_cons Sub_nil))))) h
end
section
open PySem PySem.Spec PySem.Calls PyProof.Rows PySem.P
variable {T : TI} {A : Around} {Cl N : Addr} {mN : Str → Option Value}
theorem law_test2 (tq : Tq T) (tc : Tc T Cl N mN) {k : Nat} {F L a td c' : Addr} {m1 m2 : MA} {text : List Nat} {u1 u2 : Cell} {pm cd : Value} {K : Fl → Lo → Cs → Prop} (rm : Rm A (k + 12))
    (h : ∀ R, Exs T A (lawE pm cd L a) [(sn "figures", .ref F), (sn "text", .str (S text)), (sn "leaves", .ref m1.x), (sn "sums", .ref m2.x), (sn "told", .ref td)]
      ((td, u1) :: (F, u2) :: (T.tb, .tab1 c' tpos rdQ) :: R) ((fdB (stAt Pr 14)).drop 9) K) :
    Exs T A (lawE pm cd L a) [(sn "figures", .ref F), (sn "text", .str (S text)), (sn "leaves", .ref m1.x), (sn "sums", .ref m2.x), (sn "told", .ref td)]
      ((td, u1) :: (F, u2) :: (T.tb, .tab1 c' tpos rdQ) :: (mc Cl c' m1 (1 + ((text.count 10 : Nat) : Int)) [] [] ++ mc Cl c' m2 1 [] [])) ((fdB (stAt Pr 14)).drop 8) K := by
  refine Exs_cons ?_
  refine Ex_if ?_
  refine Tr_or3 ?_
  refine Tr_compare ?_
  refine Ev_attr tc.cls tc.pushback o_pushback ?_
  refine Ev_name (v := .ref m1.x) (by walk_at "lk") ?_
  refine ⟨m1.x, 3, m1.d, _, .ref m1.pb, rfl, rfl, by walk_at "lk", fun _ => by nofun, ?_⟩
  refine Ev_list ?_
  refine Evs_nil ?_
  refine ⟨by simp, fun e1 => ?_⟩
  refine O_nel (n := 0) (i := 9) (j := 1) (vs := []) (rm.le (by omega)) rfl rfl (fun v hv => nomatch hv) ⟨_, rfl, _, rfl, ?_⟩
  refine ifF ?_
  refine Tr_compare ?_
  refine Ev_attr tc.cls tc.pushback o_pushback ?_
  refine Ev_name (v := .ref m2.x) (by walk_at "lk") ?_
  refine ⟨m2.x, 9, m2.d, _, .ref m2.pb, rfl, rfl, by walk_at "lk", fun _ => by nofun, ?_⟩
  refine Ev_list ?_
  refine Evs_nil ?_
  refine ⟨by simp, fun e2 => ?_⟩
  refine O_nel (n := 0) (i := 15) (j := 1) (vs := []) (rm.le (by omega)) rfl rfl (fun v hv => nomatch hv) ⟨_, rfl, _, rfl, ?_⟩
  refine ifF ?_
  refine Tr_compare ?_
  refine Ev_attr tc.cls tc.lineno o_lineno ?_
  refine Ev_name (v := .ref m1.x) (by walk_at "lk") ?_
  refine ⟨m1.x, 5, m1.d, _, .int (1 + ((text.count 10 : Nat) : Int)), rfl, rfl, by walk_at "lk", fun _ => by nofun, ?_⟩
  refine Ev_binop ?_
  refine Ev_int ?_
  refine Ev_method ?_
  refine Ev_name (v := .str (S text)) (by walk_at "lk") ?_
  refine ⟨_, GM_str PySem.F.slot_str_count PySem.F.type_str_count, .inl ⟨_, rfl⟩, ?_⟩
  refine Evs_cons ?_
  refine Ev_str ?_
  refine Evs_nil ?_
  refine ⟨.inl ⟨_, rfl⟩, Call_count (c := 10) ?_⟩
  refine inI ?_
  refine O_add ?_
  refine inI ?_
  refine O_ne ?_
  refine ⟨_, rfl, _, rfl, ?_⟩
  rw [if_neg (by simp)]
  refine Exs_nil ?_
  exact Exs.drop (.cons _ (.cons _ (.refl _))) (h _)
end
section
open PySem PySem.Spec PySem.Calls PyProof.Rows PySem.P
variable {T : TI} {A : Around} {Cl N : Addr} {mN : Str → Option Value}
theorem sorted_cast {l' : List Int} {sl : List Nat} (p : l'.Perm (sl.map fun x : Nat => (x : Int))) (h1 : l'.Pairwise (· ≤ ·)) (h2 : sl.Pairwise (· ≤ ·)) : l' = sl.map fun x : Nat => (x : Int) := by
  have hn : ∀ x ∈ l', ((x.toNat : Nat) : Int) = x := fun x hx => by
    obtain ⟨y, _, rfl⟩ := List.mem_map.mp (p.mem_iff.mp hx)
    simp
  have e : l' = (l'.map Int.toNat).map fun x : Nat => (x : Int) := by
    rw [List.map_map]
    have := List.map_congr_left (f := (fun x : Nat => (x : Int)) ∘ Int.toNat) (g := id) hn
    rw [this]; simp
  have p2 : (l'.map Int.toNat).Perm sl := by
    have := p.map Int.toNat
    rw [List.map_map] at this
    have e2 : sl.map (Int.toNat ∘ fun x : Nat => (x : Int)) = sl := List.map_id'' (fun x => by simp) sl
    rw [e2] at this
    exact this
  have s2 : (l'.map Int.toNat).Pairwise (· ≤ ·) := List.pairwise_map.mpr (h1.imp fun {a b} hab => by omega)
  rw [e, up_unique p2 s2 h2]
theorem law_end (tq : Tq T) (hsum : BuiltIs T (sn "sum") (.builtin "sum")) (hmin : BuiltIs T (sn "min") (.builtin "min")) {k : Nat} {figs sl : List Nat} {F L a aL td : Addr} {ℓ : Lo} {pm cd pmL cdL : Value} {R : Cs} {K : Fl → Lo → Cs → Prop} (rm : Rm A (k + 12)) (h2 : 2 ≤ figs.length) (hl : figs.length ≤ 50)
    (hgL : GlobIs T (sn "_law_least_cost") (.ref aL)) (dL : DefAt T aL (lcFd pmL cdL) (fdB (stAt Pr 13)))
    (hp : sl.Perm (figs.map (· % 40))) (hs' : sl.Pairwise (· ≤ ·)) (hF : ℓ.lookup (sn "figures") = some (.ref F)) (ht : ℓ.lookup (sn "told") = some (.ref td))
    (h : ∀ C', R.Sublist C' → K (.ret (.bool true)) ℓ C') :
    Exs T A (lawE pm cd L a) ℓ ((td, .list (iV (hs (figs.length - 1) sl))) :: (F, .list (iV figs)) :: R) ((fdB (stAt Pr 14)).drop 9) K := by
  refine Exs_cons ?_
  refine Ex_return ?_
  refine Ev_compare ?_
  refine Ev_call ?_
  refine Ev_builtin (v := .bi "sum") hsum tq.ng tq.nb (fun _ => rfl) ?_
  refine ⟨_, rfl, ?_⟩
  refine Evs_cons ?_
  refine Ev_name (v := .ref td) ht ?_
  refine Evs_nil ?_
  refine ⟨.inl ⟨_, rfl⟩, Call_sumZ (i := 1) rm (congrArg (fun z => some (td, Cell.list z)) (iV_zV _)) ?_⟩
  refine inI ?_
  refine Ev_call ?_
  refine Ev_glob hgL tq.ng ?_
  refine ⟨_, rfl, ?_⟩
  refine Evs_cons ?_
  refine Ev_call ?_
  refine Ev_builtin (v := .bi "sorted") tq.sorted tq.ng tq.nb (fun _ => rfl) ?_
  refine ⟨_, rfl, ?_⟩
  refine Evs_cons ?_
  refine Ev_comp [] ?_
  refine Ev_name (v := .ref F) hF ?_
  refine Itr.swap (Itr_list (j := 2) rfl fun it => ⟨_, _, rfl, fun D LC => ⟨Self_lit (i := 3) rfl, ?_⟩⟩)
  refine Cm_ind (ι := Nat) (fun i ℓ' H => ℓ' = [] ∧ H = lc (lawE pm cd L a) ℓ :: (D, .list (iV ((figs.take i).map (· % 40)))) :: (it, .lit F i) :: (td, .list (iV (hs (figs.length - 1) sl))) :: (F, .list (iV figs)) :: R ∧ i ≤ figs.length) (fun i => figs.length - i) ?_ 0 ⟨rfl, rfl, by simp⟩
  rintro i ℓ' H ⟨rfl, rfl, hi⟩ ih
  refine Cm_step ?_
  by_cases hlt : i < figs.length
  · refine Nt_list (i := 3) (j := 5) (v := .int ((figs[i] : Nat) : Int)) rfl rfl (by rw [iV, List.getElem?_map, List.getElem?_eq_getElem hlt]; rfl) ⟨_, rfl, ?_⟩
    refine Asn_name ?_
    apply exu
    case u => walk_at "up"
    refine Ev_binop ?_
    refine Ev_name (by walk_at "lk") ?_
    refine Ev_int ?_
    refine O_fmod (by decide) ?_
    rw [fmod40]
    refine ⟨_, rfl, 1, _, rfl, by simp [iV]; omega, ?_⟩
    refine Cm.forget (ℓ' := []) Sub_nil ?_
    refine ih (i + 1) _ _ (dec1 hlt) ⟨rfl, ?_, hlt⟩
    have e1 : figs.take (i + 1) = figs.take i ++ [figs[i]] := by
      rw [List.take_add_one, List.getElem?_eq_getElem hlt]; rfl
    rw [e1, List.map_append, iV_app]
    rfl
  · have hie : i = figs.length := by omega
    subst hie
    refine Nt_list_end (i := 3) (j := 5) rm rfl rfl (by simp [iV]) ⟨_, rfl, ?_⟩
    clear ih
    rw [List.take_length]
    refine ⟨_, rfl, ?_⟩
    refine Evs_nil ?_
    refine ⟨.inl ⟨_, rfl⟩, Call.swap (Call_sortedZ (i := 1) (congrArg (fun z => some (D, Cell.list z)) (iV_zV _)) (by simp; omega) fun b l' hpl hsl => ⟨_, _, rfl, ?_⟩)⟩
    refine Evs_nil ?_
    have hl' : l' = sl.map fun x : Nat => (x : Int) := sorted_cast (hpl.trans (hp.map _).symm) hsl hs'
    subst hl'
    rw [← iV_zV]
    refine ⟨dL.callee _, ?_⟩
    refine Call.framed (cost_call tq hsum hmin (k := k + 9) (row := sl) dL rm (by rw [hp.length_eq]; simp; omega) (by rw [hp.length_eq]; simp; omega)).call (List.perm_middle (l₁ := [_])) ?_
    rintro _ _ ⟨c, rfl, hc, rfl⟩
    refine ⟨_, List.Perm.refl _, _, rfl, ?_⟩
    have hcs := huff_is (n := figs.length - 1) (by rw [hp.length_eq]; simp; omega) hs' hc
    refine O_eq ?_
    have hb : ((List.map (fun x : Nat => (x : Int)) (hs (figs.length - 1) sl)).sum == (c : Int)) = true := by
      rw [sum_cast, hcs]; simp
    rw [hb]
    refine inI ?_
    exact h _ (.cons _ (.cons _ (.cons _ (.refl _))))
end
section
open PySem PySem.Spec PySem.Calls PyProof.Rows PySem.P
variable {T : TI} {A : Around} {Cl N : Addr} {mN : Str → Option Value}
/-- what law needs of the top, beyond the lexer's class -/
structure Tl (T : TI) (mN : Str → Option Value) : Prop where
  int : BuiltIs T (sn "int") (.type "int")
  sum : BuiltIs T (sn "sum") (.builtin "sum")
  min : BuiltIs T (sn "min") (.builtin "min")
  push : ∃ aP oP pmP cdP, mN (sn "push_token") = some (.ref aP) ∧ T.h₁.get? aP = some oP ∧ oP.cls = .type "function" ∧ DefAt T aP (fdOf (sn "_netrclex.push_token") pmP cdP (mth 3)) (fdB (mth 3))
  file : ∃ a pm cd, GlobIs T (sn "_law_file") (.ref a) ∧ DefAt T a (fdOf (sn "_law_file") pm cd (stAt Pr 10)) (fdB (stAt Pr 10))
  lines : ∃ a pm cd, GlobIs T (sn "_law_by_lines") (.ref a) ∧ DefAt T a (fdOf (sn "_law_by_lines") pm cd (stAt Pr 11)) (fdB (stAt Pr 11))
  heap : ∃ a pm cd, GlobIs T (sn "_law_by_heap") (.ref a) ∧ DefAt T a (fdOf (sn "_law_by_heap") pm cd (stAt Pr 12)) (fdB (stAt Pr 12))
  cost : ∃ a pm cd, GlobIs T (sn "_law_least_cost") (.ref a) ∧ DefAt T a (fdOf (sn "_law_least_cost") pm cd (stAt Pr 13)) (fdB (stAt Pr 13))
theorem law_call (tq : Tq T) (tc : Tc T Cl N mN) {mg : Str → Option Value} (tn : Tn T mg Cl) (tl : Tl T mN) {k : Nat} {l : List Int} {Sx a : Addr} {pm cd : Value}
    (d : DefAt T a (lawFd pm cd) (fdB (stAt Pr 14))) (rm : Rm A (k + 13)) (hS : TopInts T Sx l) (hl : l.length ≤ 10000000) :
    Call T A [(T.tb, .tab)] (.ref a) [.ref Sx] (fun v C' => v = .bool true ∧ ∃ c', C' = [(T.tb, .tab1 c' tpos rdQ)]) := by
  refine Call_def (n := k + 12) (names := [sn "script"]) (ℓ₀ := [(sn "script", .ref Sx)]) d rm (fun xs hxs => ?_) (by simp) rfl (no_cell (by kernel_rfl)) (all_local (by kernel_rfl)) (fun L => ?_)
  · obtain ⟨x, rfl⟩ := len1 hxs
    kernel_rfl
  have rm' := rm.deeper (lawE pm cd L a)
  generalize A.deeper (lawE pm cd L a) = A' at rm' ⊢
  obtain ⟨aP, oP, pmP, cdP, hmP, hoP, hocP, dP⟩ := tl.push
  obtain ⟨aF, pmF, cdF, hgF, dF⟩ := tl.file
  obtain ⟨aB, pmB, cdB, hgB, dB⟩ := tl.lines
  obtain ⟨aH, pmH, cdH, hgH, dH⟩ := tl.heap
  obtain ⟨aL, pmL, cdL, hgL, dL⟩ := tl.cost
  have hfl := figs_len l
  have hf2 : 2 ≤ (figsOf l).length := by omega
  have hf50 : (figsOf l).length ≤ 50 := by omega
  refine law_figs tq (k := k + 10) rm' hS hl fun F => ?_
  refine law_lex tq tc tn (k := k + 2) rm' hf2 hf50 (figs_lt l) hgF dF fun qs c' m1 m2 hq1 hq2 => ?_
  refine law_lines tq tc tl.int (k := k) rm' hf2 hf50 hmP hoP hocP dP hgB dB hq1 hq2 fun td fr x hx hx2 => ?_
  refine law_heap (k := k + 10) rm' hf50 fun D => ?_
  have hp : (qs.map Prod.fst).Perm ((figsOf l).map (· % 40)) := by rw [← prs_fst]; exact hq1.map _
  have hs' : (qs.map Prod.fst).Pairwise (· ≤ ·) := List.pairwise_map.mpr hq2
  refine law_test1 tq (k := k) rm' hf2 hf50 hgH dH hp hs' hx hx2 ?_
  refine law_test2 tq tc (k := k) rm' fun R => ?_
  refine law_end tq tl.sum tl.min (k := k) rm' hf2 hf50 hgL dL hp hs' (by walk_at "lk") (by walk_at "lk") fun C' hC => ?_
  exact ⟨_, (List.Sublist.cons_cons _ (List.nil_sublist _)).trans hC, rfl, c', rfl⟩
end
section
open PySem PySem.Spec PySem.Calls PyProof.Rows PySem.P PySem.W
noncomputable def KK (P : Params) : PySem.W.Frag :=
  [(3, { cls := Value.type "dict", data := Data.dict #[{ hash := PyData.keyHash P (Str.ofString "__name__"), key := Value.str (Str.ofString "__name__") 165, val := Value.str (Str.ofString "law_mr0160_02") 301 }, { hash := PyData.keyHash P (Str.ofString "__doc__"), key := Value.str (Str.ofString "__doc__") 166, val := Value.none }, { hash := PyData.keyHash P (Str.ofString "__package__"), key := Value.str (Str.ofString "__package__") 167, val := Value.none }, { hash := PyData.keyHash P (Str.ofString "__loader__"), key := Value.str (Str.ofString "__loader__") 168, val := Value.builtin "__main__.__loader__#opaque" }, { hash := PyData.keyHash P (Str.ofString "__spec__"), key := Value.str (Str.ofString "__spec__") 169, val := Value.none }, { hash := PyData.keyHash P (Str.ofString "__annotations__"), key := Value.str (Str.ofString "__annotations__") 170, val := Value.ref 6 }, { hash := PyData.keyHash P (Str.ofString "__builtins__"), key := Value.str (Str.ofString "__builtins__") 171, val := Value.ref 4 }, { hash := PyData.keyHash P (Str.ofString "__file__"), key := Value.str (Str.ofString "__file__") 173, val := Value.str (Str.ofString "/claim/cut.py") 172 }, { hash := PyData.keyHash P (Str.ofString "__cached__"), key := Value.str (Str.ofString "__cached__") 174, val := Value.none }, { hash := PyData.keyHash P (Str.ofString "heappop"), key := Value.str (Str.ofString "heappop") 197, val := Value.ref 21 }, { hash := PyData.keyHash P (Str.ofString "heapreplace"), key := Value.str (Str.ofString "heapreplace") 206, val := Value.ref 28 }, { hash := PyData.keyHash P (Str.ofString "heapify"), key := Value.str (Str.ofString "heapify") 215, val := Value.ref 35 }, { hash := PyData.keyHash P (Str.ofString "_siftdown"), key := Value.str (Str.ofString "_siftdown") 227, val := Value.ref 42 }, { hash := PyData.keyHash P (Str.ofString "_siftup"), key := Value.str (Str.ofString "_siftup") 240, val := Value.ref 49 }, { hash := PyData.keyHash P (Str.ofString "_netrclex"), key := Value.str (Str.ofString "_netrclex") 300, val := Value.ref 87 }, { hash := PyData.keyHash P (Str.ofString "_law_tape"), key := Value.str (Str.ofString "_law_tape") 312, val := Value.ref 98 }, { hash := PyData.keyHash P (Str.ofString "_law_file"), key := Value.str (Str.ofString "_law_file") 318, val := Value.ref 103 }, { hash := PyData.keyHash P (Str.ofString "_law_by_lines"), key := Value.str (Str.ofString "_law_by_lines") 332, val := Value.ref 110 }, { hash := PyData.keyHash P (Str.ofString "_law_by_heap"), key := Value.str (Str.ofString "_law_by_heap") 343, val := Value.ref 117 }, { hash := PyData.keyHash P (Str.ofString "_law_least_cost"), key := Value.str (Str.ofString "_law_least_cost") 349, val := Value.ref 122 }, { hash := PyData.keyHash P (Str.ofString "law"), key := Value.str (Str.ofString "law") 355, val := Value.ref 127 }] 21 }),
   (20, { cls := Value.type "code", data := Data.fields #[Value.str (Str.ofString "heappop") 189, Value.str (Str.ofString "heappop") 190, Value.str (Str.ofString "/claim/cut.py") 191, Value.int 2 0, Value.int 1 0, Value.int 0 0, Value.int 0 0, Value.int 3 0, Value.ref 15, Value.bool true, Value.int 181 0, Value.ref 16, Value.none, Value.ref 17, Value.ref 18, Value.ref 19, Value.int 195 0, Value.int 2 0, Value.str (Str.ofString "/claim/cut.py") 196] }),
   (21, { cls := .type "function", data := .func (fdOf (Str.ofString "heappop") (.str (Str.ofString "cpy313.heapq") 187) (.ref 20) (stAt Pr 1)) }),
   (27, { cls := Value.type "code", data := Data.fields #[Value.str (Str.ofString "heapreplace") 198, Value.str (Str.ofString "heapreplace") 199, Value.str (Str.ofString "/claim/cut.py") 200, Value.int 10 0, Value.int 2 0, Value.int 0 0, Value.int 0 0, Value.int 3 0, Value.ref 22, Value.bool true, Value.int 181 0, Value.ref 23, Value.none, Value.ref 24, Value.ref 25, Value.ref 26, Value.int 204 0, Value.int 10 0, Value.str (Str.ofString "/claim/cut.py") 205] }),
   (28, { cls := .type "function", data := .func (fdOf (Str.ofString "heapreplace") (.str (Str.ofString "cpy313.heapq") 187) (.ref 27) (stAt Pr 2)) }),
   (34, { cls := Value.type "code", data := Data.fields #[Value.str (Str.ofString "heapify") 207, Value.str (Str.ofString "heapify") 208, Value.str (Str.ofString "/claim/cut.py") 209, Value.int 15 0, Value.int 1 0, Value.int 0 0, Value.int 0 0, Value.int 3 0, Value.ref 29, Value.bool true, Value.int 181 0, Value.ref 30, Value.none, Value.ref 31, Value.ref 32, Value.ref 33, Value.int 213 0, Value.int 15 0, Value.str (Str.ofString "/claim/cut.py") 214] }),
   (35, { cls := .type "function", data := .func (fdOf (Str.ofString "heapify") (.str (Str.ofString "cpy313.heapq") 187) (.ref 34) (stAt Pr 3)) }),
   (41, { cls := Value.type "code", data := Data.fields #[Value.str (Str.ofString "_siftdown") 216, Value.str (Str.ofString "_siftdown") 217, Value.str (Str.ofString "/claim/cut.py") 218, Value.int 19 0, Value.int 3 0, Value.int 0 0, Value.int 0 0, Value.int 3 0, Value.ref 36, Value.bool true, Value.int 181 0, Value.ref 37, Value.none, Value.ref 38, Value.ref 39, Value.ref 40, Value.int 225 0, Value.int 19 0, Value.str (Str.ofString "/claim/cut.py") 226] }),
   (42, { cls := .type "function", data := .func (fdOf (Str.ofString "_siftdown") (.str (Str.ofString "cpy313.heapq") 187) (.ref 41) (stAt Pr 4)) }),
   (48, { cls := Value.type "code", data := Data.fields #[Value.str (Str.ofString "_siftup") 228, Value.str (Str.ofString "_siftup") 229, Value.str (Str.ofString "/claim/cut.py") 230, Value.int 30 0, Value.int 2 0, Value.int 0 0, Value.int 0 0, Value.int 3 0, Value.ref 43, Value.bool true, Value.int 181 0, Value.ref 44, Value.none, Value.ref 45, Value.ref 46, Value.ref 47, Value.int 238 0, Value.int 30 0, Value.str (Str.ofString "/claim/cut.py") 239] }),
   (49, { cls := .type "function", data := .func (fdOf (Str.ofString "_siftup") (.str (Str.ofString "cpy313.heapq") 187) (.ref 48) (stAt Pr 5)) }),
   (62, { cls := Value.type "code", data := Data.fields #[Value.str (Str.ofString "__init__") 255, Value.str (Str.ofString "_netrclex.__init__") 256, Value.str (Str.ofString "/claim/cut.py") 257, Value.int 47 0, Value.int 2 0, Value.int 0 0, Value.int 0 0, Value.int 3 0, Value.ref 57, Value.bool true, Value.int 181 0, Value.ref 58, Value.none, Value.ref 59, Value.ref 60, Value.ref 61, Value.int 260 0, Value.int 47 0, Value.str (Str.ofString "/claim/cut.py") 261] }),
   (63, { cls := .type "function", data := .func (fdOf (Str.ofString "_netrclex.__init__") (.str (Str.ofString "cpy313.netrc") 241) (.ref 62) (mth 0)) }),
   (69, { cls := Value.type "code", data := Data.fields #[Value.str (Str.ofString "_read_char") 263, Value.str (Str.ofString "_netrclex._read_char") 264, Value.str (Str.ofString "/claim/cut.py") 265, Value.int 53 0, Value.int 1 0, Value.int 0 0, Value.int 0 0, Value.int 3 0, Value.ref 64, Value.bool true, Value.int 181 0, Value.ref 65, Value.none, Value.ref 66, Value.ref 67, Value.ref 68, Value.int 268 0, Value.int 53 0, Value.str (Str.ofString "/claim/cut.py") 269] }),
   (70, { cls := .type "function", data := .func (fdOf (Str.ofString "_netrclex._read_char") (.str (Str.ofString "cpy313.netrc") 241) (.ref 69) (mth 1)) }),
   (76, { cls := Value.type "code", data := Data.fields #[Value.str (Str.ofString "get_token") 271, Value.str (Str.ofString "_netrclex.get_token") 272, Value.str (Str.ofString "/claim/cut.py") 273, Value.int 59 0, Value.int 1 0, Value.int 0 0, Value.int 0 0, Value.int 3 0, Value.ref 71, Value.bool true, Value.int 181 0, Value.ref 72, Value.none, Value.ref 73, Value.ref 74, Value.ref 75, Value.int 278 0, Value.int 59 0, Value.str (Str.ofString "/claim/cut.py") 279] }),
   (77, { cls := .type "function", data := .func (fdOf (Str.ofString "_netrclex.get_token") (.str (Str.ofString "cpy313.netrc") 241) (.ref 76) (mth 2)) }),
   (83, { cls := Value.type "code", data := Data.fields #[Value.str (Str.ofString "push_token") 281, Value.str (Str.ofString "_netrclex.push_token") 282, Value.str (Str.ofString "/claim/cut.py") 283, Value.int 86 0, Value.int 2 0, Value.int 0 0, Value.int 0 0, Value.int 3 0, Value.ref 78, Value.bool true, Value.int 181 0, Value.ref 79, Value.none, Value.ref 80, Value.ref 81, Value.ref 82, Value.int 286 0, Value.int 86 0, Value.str (Str.ofString "/claim/cut.py") 287] }),
   (84, { cls := .type "function", data := .func (fdOf (Str.ofString "_netrclex.push_token") (.str (Str.ofString "cpy313.netrc") 241) (.ref 83) (mth 3)) }),
   (86, { cls := Value.type "dict", data := Data.dict #[{ hash := PyData.keyHash P (Str.ofString "__module__"), key := Value.str (Str.ofString "__module__") 250, val := Value.str (Str.ofString "cpy313.netrc") 241 }, { hash := PyData.keyHash P (Str.ofString "__firstlineno__"), key := Value.str (Str.ofString "__firstlineno__") 254, val := Value.int 45 253 }, { hash := PyData.keyHash P (Str.ofString "__init__"), key := Value.str (Str.ofString "__init__") 262, val := Value.ref 63 }, { hash := PyData.keyHash P (Str.ofString "_read_char"), key := Value.str (Str.ofString "_read_char") 270, val := Value.ref 70 }, { hash := PyData.keyHash P (Str.ofString "get_token"), key := Value.str (Str.ofString "get_token") 280, val := Value.ref 77 }, { hash := PyData.keyHash P (Str.ofString "push_token"), key := Value.str (Str.ofString "push_token") 288, val := Value.ref 84 }, { hash := PyData.keyHash P (Str.ofString "__static_attributes__"), key := Value.str (Str.ofString "__static_attributes__") 293, val := Value.ref 85 }, { hash := PyData.keyHash P (Str.ofString "__dict__"), key := Value.str (Str.ofString "__dict__") 295, val := Value.ref 88 }, { hash := PyData.keyHash P (Str.ofString "__weakref__"), key := Value.str (Str.ofString "__weakref__") 297, val := Value.ref 89 }, { hash := PyData.keyHash P (Str.ofString "__doc__"), key := Value.str (Str.ofString "__doc__") 298, val := Value.none }] 4 }),
   (87, { cls := Value.type "type", data := Data.cls { name := Str.ofString "_netrclex", bases := [Value.type "object"], mro := [Value.ref 87, Value.type "object"], ns := 86, qualname := Str.ofString "_netrclex" }, slots := #[none, none, some (Value.str (Str.ofString "_netrclex") 243), some (Value.str (Str.ofString "_netrclex") 251), some (Value.builtin "object.__new__"), some (Value.bool true)] }),
   (97, { cls := Value.type "code", data := Data.fields #[Value.str (Str.ofString "_law_tape") 303, Value.str (Str.ofString "_law_tape") 304, Value.str (Str.ofString "/claim/cut.py") 305, Value.int 89 0, Value.int 1 0, Value.int 0 0, Value.int 0 0, Value.int 3 0, Value.ref 92, Value.bool true, Value.int 181 0, Value.ref 93, Value.none, Value.ref 94, Value.ref 95, Value.ref 96, Value.int 310 0, Value.int 89 0, Value.str (Str.ofString "/claim/cut.py") 311] }),
   (98, { cls := .type "function", data := .func (fdOf (Str.ofString "_law_tape") (.str (Str.ofString "law_mr0160_02") 301) (.ref 97) (stAt Pr 9)) }),
   (102, { cls := Value.type "code", data := Data.fields #[Value.str (Str.ofString "_law_file") 313, Value.str (Str.ofString "_law_file") 314, Value.str (Str.ofString "/claim/cut.py") 315, Value.int 99 0, Value.int 1 0, Value.int 0 0, Value.int 0 0, Value.int 3 0, Value.ref 99, Value.bool true, Value.int 181 0, Value.ref 100, Value.none, Value.none, Value.none, Value.ref 101, Value.int 316 0, Value.int 99 0, Value.str (Str.ofString "/claim/cut.py") 317] }),
   (103, { cls := .type "function", data := .func (fdOf (Str.ofString "_law_file") (.str (Str.ofString "law_mr0160_02") 301) (.ref 102) (stAt Pr 10)) }),
   (109, { cls := Value.type "code", data := Data.fields #[Value.str (Str.ofString "_law_by_lines") 319, Value.str (Str.ofString "_law_by_lines") 320, Value.str (Str.ofString "/claim/cut.py") 321, Value.int 110 0, Value.int 3 0, Value.int 0 0, Value.int 0 0, Value.int 3 0, Value.ref 104, Value.bool true, Value.int 181 0, Value.ref 105, Value.none, Value.ref 106, Value.ref 107, Value.ref 108, Value.int 330 0, Value.int 110 0, Value.str (Str.ofString "/claim/cut.py") 331] }),
   (110, { cls := .type "function", data := .func (fdOf (Str.ofString "_law_by_lines") (.str (Str.ofString "law_mr0160_02") 301) (.ref 109) (stAt Pr 11)) }),
   (116, { cls := Value.type "code", data := Data.fields #[Value.str (Str.ofString "_law_by_heap") 333, Value.str (Str.ofString "_law_by_heap") 334, Value.str (Str.ofString "/claim/cut.py") 335, Value.int 127 0, Value.int 1 0, Value.int 0 0, Value.int 0 0, Value.int 3 0, Value.ref 111, Value.bool true, Value.int 181 0, Value.ref 112, Value.none, Value.ref 113, Value.ref 114, Value.ref 115, Value.int 341 0, Value.int 127 0, Value.str (Str.ofString "/claim/cut.py") 342] }),
   (117, { cls := .type "function", data := .func (fdOf (Str.ofString "_law_by_heap") (.str (Str.ofString "law_mr0160_02") 301) (.ref 116) (stAt Pr 12)) }),
   (121, { cls := Value.type "code", data := Data.fields #[Value.str (Str.ofString "_law_least_cost") 344, Value.str (Str.ofString "_law_least_cost") 345, Value.str (Str.ofString "/claim/cut.py") 346, Value.int 135 0, Value.int 1 0, Value.int 0 0, Value.int 0 0, Value.int 3 0, Value.ref 118, Value.bool true, Value.int 181 0, Value.ref 119, Value.none, Value.none, Value.none, Value.ref 120, Value.int 347 0, Value.int 135 0, Value.str (Str.ofString "/claim/cut.py") 348] }),
   (122, { cls := .type "function", data := .func (fdOf (Str.ofString "_law_least_cost") (.str (Str.ofString "law_mr0160_02") 301) (.ref 121) (stAt Pr 13)) }),
   (126, { cls := Value.type "code", data := Data.fields #[Value.str (Str.ofString "law") 350, Value.str (Str.ofString "law") 351, Value.str (Str.ofString "/claim/cut.py") 352, Value.int 144 0, Value.int 1 0, Value.int 0 0, Value.int 0 0, Value.int 3 0, Value.ref 123, Value.bool true, Value.int 181 0, Value.ref 124, Value.none, Value.none, Value.none, Value.ref 125, Value.int 353 0, Value.int 144 0, Value.str (Str.ofString "/claim/cut.py") 354] }),
   (127, { cls := .type "function", data := .func (fdOf (Str.ofString "law") (.str (Str.ofString "law_mr0160_02") 301) (.ref 126) (stAt Pr 14)) })]
noncomputable def KA : List Addr := [3, 20, 21, 27, 28, 34, 35, 41, 42, 48, 49, 62, 63, 69, 70, 76, 77, 83, 84, 86, 87, 97, 98, 102, 103, 109, 110, 116, 117, 121, 122, 126, 127]
/-- the text without its rows «__name__ = ..» -/
noncomputable def Qv : Program := { Pr with main := { Pr.main with body := [stAt Pr 1, stAt Pr 2, stAt Pr 3, stAt Pr 4, stAt Pr 5, stAt Pr 7, stAt Pr 9, stAt Pr 10, stAt Pr 11, stAt Pr 12, stAt Pr 13, stAt Pr 14] } }
theorem ws : PySem.Challenge.rw_mr0160_02.wellSaid = true := by
  delta OpenLaw.wellSaid OpenRow.wellSaid OpenRow.partSaid looksOpen
  first | rw [PySem.W.Fast.te8326940854005059898, PySem.W.Fast.te17119622794617984870] | skip
  repeat' (with_reducible refine look_both ?_ ?_)
  all_goals decide +kernel
noncomputable abbrev HH2 : Hook := kmHook KK KA (fun _ => by kernel_rfl) [93]
noncomputable def fd0 (q : Str) (s : Stmt) : FuncData := { fdOf q .none .none s with globals := 0, builtins := 0 }
noncomputable def ob13a (P : Params) : Obj := { cls := Value.type "code", data := Data.fields #[Value.str (Str.ofString "<module>") 182, Value.str (Str.ofString "<module>") 183, Value.str (Str.ofString "/claim/cut.py") 184, Value.int 1 0, Value.int 0 0, Value.int 0 0, Value.int 0 0, Value.int 0 0, Value.ref 11, Value.bool false, Value.int 181 0, Value.ref 12, Value.none, Value.none, Value.none, Value.none, Value.int 185 0, Value.int 1 0, Value.str (Str.ofString "/claim/cut.py") 186] }
noncomputable def ob14a (P : Params) : Obj := { cls := Value.type "frame", slots := #[some (Value.ref 13), some (Value.ref 3), some (Value.ref 3), none, some (Value.str (Str.ofString "__main__") 164), none, some (Value.ref 0)] }
noncomputable def ob31 (P : Params) : Obj := { cls := Value.type "dict", data := Data.dict #[{ hash := PyData.keyHash P (Str.ofString "__name__"), key := Value.str (Str.ofString "__name__") 165, val := Value.str (Str.ofString "cpy313.netrc") 241 }, { hash := PyData.keyHash P (Str.ofString "__doc__"), key := Value.str (Str.ofString "__doc__") 166, val := Value.none }, { hash := PyData.keyHash P (Str.ofString "__package__"), key := Value.str (Str.ofString "__package__") 167, val := Value.none }, { hash := PyData.keyHash P (Str.ofString "__loader__"), key := Value.str (Str.ofString "__loader__") 168, val := Value.builtin "__main__.__loader__#opaque" }, { hash := PyData.keyHash P (Str.ofString "__spec__"), key := Value.str (Str.ofString "__spec__") 169, val := Value.none }, { hash := PyData.keyHash P (Str.ofString "__annotations__"), key := Value.str (Str.ofString "__annotations__") 170, val := Value.ref 6 }, { hash := PyData.keyHash P (Str.ofString "__builtins__"), key := Value.str (Str.ofString "__builtins__") 171, val := Value.ref 4 }, { hash := PyData.keyHash P (Str.ofString "__file__"), key := Value.str (Str.ofString "__file__") 173, val := Value.str (Str.ofString "/claim/cut.py") 172 }, { hash := PyData.keyHash P (Str.ofString "__cached__"), key := Value.str (Str.ofString "__cached__") 174, val := Value.none }, { hash := PyData.keyHash P (Str.ofString "heappop"), key := Value.str (Str.ofString "heappop") 197, val := Value.ref 21 }, { hash := PyData.keyHash P (Str.ofString "heapreplace"), key := Value.str (Str.ofString "heapreplace") 206, val := Value.ref 28 }, { hash := PyData.keyHash P (Str.ofString "heapify"), key := Value.str (Str.ofString "heapify") 215, val := Value.ref 35 }, { hash := PyData.keyHash P (Str.ofString "_siftdown"), key := Value.str (Str.ofString "_siftdown") 227, val := Value.ref 42 }, { hash := PyData.keyHash P (Str.ofString "_siftup"), key := Value.str (Str.ofString "_siftup") 240, val := Value.ref 49 }] 14 }
noncomputable def ob121 (P : Params) : Obj := { cls := Value.none, data := Data.fields #[Value.int 2 0, Value.int 0 0, Value.ref 20, Value.int 10 0, Value.int 0 0, Value.ref 27, Value.int 15 0, Value.int 0 0, Value.ref 34, Value.int 19 0, Value.int 0 0, Value.ref 41, Value.int 30 0, Value.int 0 0, Value.ref 48] }
noncomputable def ob171 (P : Params) : Obj := { cls := Value.type "tuple", data := Data.seq #[Value.str (Str.ofString "heap") 192, Value.str (Str.ofString "lastelt") 193, Value.str (Str.ofString "returnitem") 194] }
noncomputable def ob191 (P : Params) : Obj := { cls := .none, data := .func (fd0 (Str.ofString "heappop") (stAt Pr 1)) }
noncomputable def ob201 (P : Params) : Obj := { cls := Value.type "code", data := Data.fields #[Value.str (Str.ofString "heappop") 189, Value.str (Str.ofString "heappop") 190, Value.str (Str.ofString "/claim/cut.py") 191, Value.int 2 0, Value.int 1 0, Value.int 0 0, Value.int 0 0, Value.int 3 0, Value.ref 15, Value.bool true, Value.int 181 0, Value.ref 16, Value.none, Value.ref 17, Value.ref 18, Value.ref 19, Value.int 195 0, Value.int 2 0, Value.str (Str.ofString "/claim/cut.py") 196] }
noncomputable def ob211 (P : Params) : Obj := { cls := .type "function", data := .func (fdOf (Str.ofString "heappop") (.str (Str.ofString "cpy313.heapq") 187) (.ref 20) (stAt Pr 1)) }
noncomputable def ob241 (P : Params) : Obj := { cls := Value.type "tuple", data := Data.seq #[Value.str (Str.ofString "heap") 201, Value.str (Str.ofString "item") 202, Value.str (Str.ofString "returnitem") 203] }
noncomputable def ob261 (P : Params) : Obj := { cls := .none, data := .func (fd0 (Str.ofString "heapreplace") (stAt Pr 2)) }
noncomputable def ob271 (P : Params) : Obj := { cls := Value.type "code", data := Data.fields #[Value.str (Str.ofString "heapreplace") 198, Value.str (Str.ofString "heapreplace") 199, Value.str (Str.ofString "/claim/cut.py") 200, Value.int 10 0, Value.int 2 0, Value.int 0 0, Value.int 0 0, Value.int 3 0, Value.ref 22, Value.bool true, Value.int 181 0, Value.ref 23, Value.none, Value.ref 24, Value.ref 25, Value.ref 26, Value.int 204 0, Value.int 10 0, Value.str (Str.ofString "/claim/cut.py") 205] }
noncomputable def ob281 (P : Params) : Obj := { cls := .type "function", data := .func (fdOf (Str.ofString "heapreplace") (.str (Str.ofString "cpy313.heapq") 187) (.ref 27) (stAt Pr 2)) }
noncomputable def ob311 (P : Params) : Obj := { cls := Value.type "tuple", data := Data.seq #[Value.str (Str.ofString "x") 210, Value.str (Str.ofString "n") 211, Value.str (Str.ofString "i") 212] }
noncomputable def ob331 (P : Params) : Obj := { cls := .none, data := .func (fd0 (Str.ofString "heapify") (stAt Pr 3)) }
noncomputable def ob341 (P : Params) : Obj := { cls := Value.type "code", data := Data.fields #[Value.str (Str.ofString "heapify") 207, Value.str (Str.ofString "heapify") 208, Value.str (Str.ofString "/claim/cut.py") 209, Value.int 15 0, Value.int 1 0, Value.int 0 0, Value.int 0 0, Value.int 3 0, Value.ref 29, Value.bool true, Value.int 181 0, Value.ref 30, Value.none, Value.ref 31, Value.ref 32, Value.ref 33, Value.int 213 0, Value.int 15 0, Value.str (Str.ofString "/claim/cut.py") 214] }
noncomputable def ob351 (P : Params) : Obj := { cls := .type "function", data := .func (fdOf (Str.ofString "heapify") (.str (Str.ofString "cpy313.heapq") 187) (.ref 34) (stAt Pr 3)) }
noncomputable def ob381 (P : Params) : Obj := { cls := Value.type "tuple", data := Data.seq #[Value.str (Str.ofString "heap") 219, Value.str (Str.ofString "startpos") 220, Value.str (Str.ofString "pos") 221, Value.str (Str.ofString "newitem") 222, Value.str (Str.ofString "parentpos") 223, Value.str (Str.ofString "parent") 224] }
noncomputable def ob401 (P : Params) : Obj := { cls := .none, data := .func (fd0 (Str.ofString "_siftdown") (stAt Pr 4)) }
noncomputable def ob411 (P : Params) : Obj := { cls := Value.type "code", data := Data.fields #[Value.str (Str.ofString "_siftdown") 216, Value.str (Str.ofString "_siftdown") 217, Value.str (Str.ofString "/claim/cut.py") 218, Value.int 19 0, Value.int 3 0, Value.int 0 0, Value.int 0 0, Value.int 3 0, Value.ref 36, Value.bool true, Value.int 181 0, Value.ref 37, Value.none, Value.ref 38, Value.ref 39, Value.ref 40, Value.int 225 0, Value.int 19 0, Value.str (Str.ofString "/claim/cut.py") 226] }
noncomputable def ob421 (P : Params) : Obj := { cls := .type "function", data := .func (fdOf (Str.ofString "_siftdown") (.str (Str.ofString "cpy313.heapq") 187) (.ref 41) (stAt Pr 4)) }
noncomputable def ob451 (P : Params) : Obj := { cls := Value.type "tuple", data := Data.seq #[Value.str (Str.ofString "heap") 231, Value.str (Str.ofString "pos") 232, Value.str (Str.ofString "endpos") 233, Value.str (Str.ofString "startpos") 234, Value.str (Str.ofString "newitem") 235, Value.str (Str.ofString "childpos") 236, Value.str (Str.ofString "rightpos") 237] }
noncomputable def ob471 (P : Params) : Obj := { cls := .none, data := .func (fd0 (Str.ofString "_siftup") (stAt Pr 5)) }
noncomputable def ob481 (P : Params) : Obj := { cls := Value.type "code", data := Data.fields #[Value.str (Str.ofString "_siftup") 228, Value.str (Str.ofString "_siftup") 229, Value.str (Str.ofString "/claim/cut.py") 230, Value.int 30 0, Value.int 2 0, Value.int 0 0, Value.int 0 0, Value.int 3 0, Value.ref 43, Value.bool true, Value.int 181 0, Value.ref 44, Value.none, Value.ref 45, Value.ref 46, Value.ref 47, Value.int 238 0, Value.int 30 0, Value.str (Str.ofString "/claim/cut.py") 239] }
noncomputable def ob491 (P : Params) : Obj := { cls := .type "function", data := .func (fdOf (Str.ofString "_siftup") (.str (Str.ofString "cpy313.heapq") 187) (.ref 48) (stAt Pr 5)) }
noncomputable def ob32 (P : Params) : Obj := { cls := Value.type "dict", data := Data.dict #[{ hash := PyData.keyHash P (Str.ofString "__name__"), key := Value.str (Str.ofString "__name__") 165, val := Value.str (Str.ofString "law_mr0160_02") 301 }, { hash := PyData.keyHash P (Str.ofString "__doc__"), key := Value.str (Str.ofString "__doc__") 166, val := Value.none }, { hash := PyData.keyHash P (Str.ofString "__package__"), key := Value.str (Str.ofString "__package__") 167, val := Value.none }, { hash := PyData.keyHash P (Str.ofString "__loader__"), key := Value.str (Str.ofString "__loader__") 168, val := Value.builtin "__main__.__loader__#opaque" }, { hash := PyData.keyHash P (Str.ofString "__spec__"), key := Value.str (Str.ofString "__spec__") 169, val := Value.none }, { hash := PyData.keyHash P (Str.ofString "__annotations__"), key := Value.str (Str.ofString "__annotations__") 170, val := Value.ref 6 }, { hash := PyData.keyHash P (Str.ofString "__builtins__"), key := Value.str (Str.ofString "__builtins__") 171, val := Value.ref 4 }, { hash := PyData.keyHash P (Str.ofString "__file__"), key := Value.str (Str.ofString "__file__") 173, val := Value.str (Str.ofString "/claim/cut.py") 172 }, { hash := PyData.keyHash P (Str.ofString "__cached__"), key := Value.str (Str.ofString "__cached__") 174, val := Value.none }, { hash := PyData.keyHash P (Str.ofString "heappop"), key := Value.str (Str.ofString "heappop") 197, val := Value.ref 21 }, { hash := PyData.keyHash P (Str.ofString "heapreplace"), key := Value.str (Str.ofString "heapreplace") 206, val := Value.ref 28 }, { hash := PyData.keyHash P (Str.ofString "heapify"), key := Value.str (Str.ofString "heapify") 215, val := Value.ref 35 }, { hash := PyData.keyHash P (Str.ofString "_siftdown"), key := Value.str (Str.ofString "_siftdown") 227, val := Value.ref 42 }, { hash := PyData.keyHash P (Str.ofString "_siftup"), key := Value.str (Str.ofString "_siftup") 240, val := Value.ref 49 }, { hash := PyData.keyHash P (Str.ofString "_netrclex"), key := Value.str (Str.ofString "_netrclex") 300, val := Value.ref 87 }, { hash := PyData.keyHash P (Str.ofString "_law_tape"), key := Value.str (Str.ofString "_law_tape") 312, val := Value.ref 98 }, { hash := PyData.keyHash P (Str.ofString "_law_file"), key := Value.str (Str.ofString "_law_file") 318, val := Value.ref 103 }] 17 }
noncomputable def ob122 (P : Params) : Obj := { cls := Value.none, data := Data.fields #[Value.int 2 0, Value.int 0 0, Value.ref 20, Value.int 10 0, Value.int 0 0, Value.ref 27, Value.int 15 0, Value.int 0 0, Value.ref 34, Value.int 19 0, Value.int 0 0, Value.ref 41, Value.int 30 0, Value.int 0 0, Value.ref 48, Value.int 45 0, Value.int 0 0, Value.ref 55, Value.int 89 0, Value.int 0 0, Value.ref 97, Value.int 99 0, Value.int 0 0, Value.ref 102] }
noncomputable def ob512 (P : Params) : Obj := { cls := Value.type "builtin_function_or_method", data := Data.fields #[Value.builtin "type.__prepare__", Value.type "type"] }
noncomputable def ob522 (P : Params) : Obj := { cls := Value.type "dict", data := Data.dict #[{ hash := PyData.keyHash P (Str.ofString "__module__"), key := Value.str (Str.ofString "__module__") 250, val := Value.str (Str.ofString "cpy313.netrc") 241 }, { hash := PyData.keyHash P (Str.ofString "__qualname__"), key := Value.str (Str.ofString "__qualname__") 252, val := Value.str (Str.ofString "_netrclex") 251 }, { hash := PyData.keyHash P (Str.ofString "__firstlineno__"), key := Value.str (Str.ofString "__firstlineno__") 254, val := Value.int 45 253 }, { hash := PyData.keyHash P (Str.ofString "__init__"), key := Value.str (Str.ofString "__init__") 262, val := Value.ref 63 }, { hash := PyData.keyHash P (Str.ofString "_read_char"), key := Value.str (Str.ofString "_read_char") 270, val := Value.ref 70 }, { hash := PyData.keyHash P (Str.ofString "get_token"), key := Value.str (Str.ofString "get_token") 280, val := Value.ref 77 }, { hash := PyData.keyHash P (Str.ofString "push_token"), key := Value.str (Str.ofString "push_token") 288, val := Value.ref 84 }, { hash := PyData.keyHash P (Str.ofString "__static_attributes__"), key := Value.str (Str.ofString "__static_attributes__") 293, val := Value.ref 85 }] 8 }
noncomputable def ob542 (P : Params) : Obj := { cls := Value.none, data := Data.fields #[Value.int 47 0, Value.int 4 0, Value.ref 62, Value.int 53 0, Value.int 4 0, Value.ref 69, Value.int 59 0, Value.int 4 0, Value.ref 76, Value.int 86 0, Value.int 4 0, Value.ref 83] }
noncomputable def ob552 (P : Params) : Obj := { cls := Value.type "code", data := Data.fields #[Value.str (Str.ofString "_netrclex") 245, Value.str (Str.ofString "_netrclex") 246, Value.str (Str.ofString "/claim/cut.py") 247, Value.int 45 0, Value.int 0 0, Value.int 0 0, Value.int 0 0, Value.int 0 0, Value.ref 53, Value.bool false, Value.int 181 0, Value.ref 54, Value.none, Value.none, Value.none, Value.none, Value.int 248 0, Value.int 45 0, Value.str (Str.ofString "/claim/cut.py") 249] }
noncomputable def ob562 (P : Params) : Obj := { cls := Value.type "frame", slots := #[some (Value.ref 55), some (Value.ref 3), some (Value.ref 52), none, some (Value.str (Str.ofString "cpy313.netrc") 241), none, some (Value.ref 0)] }
noncomputable def ob592 (P : Params) : Obj := { cls := Value.type "tuple", data := Data.seq #[Value.str (Str.ofString "self") 258, Value.str (Str.ofString "fp") 259] }
noncomputable def ob612 (P : Params) : Obj := { cls := .none, data := .func (fd0 (Str.ofString "_netrclex.__init__") (mth 0)) }
noncomputable def ob622 (P : Params) : Obj := { cls := Value.type "code", data := Data.fields #[Value.str (Str.ofString "__init__") 255, Value.str (Str.ofString "_netrclex.__init__") 256, Value.str (Str.ofString "/claim/cut.py") 257, Value.int 47 0, Value.int 2 0, Value.int 0 0, Value.int 0 0, Value.int 3 0, Value.ref 57, Value.bool true, Value.int 181 0, Value.ref 58, Value.none, Value.ref 59, Value.ref 60, Value.ref 61, Value.int 260 0, Value.int 47 0, Value.str (Str.ofString "/claim/cut.py") 261] }
noncomputable def ob632 (P : Params) : Obj := { cls := .type "function", data := .func (fdOf (Str.ofString "_netrclex.__init__") (.str (Str.ofString "cpy313.netrc") 241) (.ref 62) (mth 0)) }
noncomputable def ob662 (P : Params) : Obj := { cls := Value.type "tuple", data := Data.seq #[Value.str (Str.ofString "self") 266, Value.str (Str.ofString "ch") 267] }
noncomputable def ob682 (P : Params) : Obj := { cls := .none, data := .func (fd0 (Str.ofString "_netrclex._read_char") (mth 1)) }
noncomputable def ob692 (P : Params) : Obj := { cls := Value.type "code", data := Data.fields #[Value.str (Str.ofString "_read_char") 263, Value.str (Str.ofString "_netrclex._read_char") 264, Value.str (Str.ofString "/claim/cut.py") 265, Value.int 53 0, Value.int 1 0, Value.int 0 0, Value.int 0 0, Value.int 3 0, Value.ref 64, Value.bool true, Value.int 181 0, Value.ref 65, Value.none, Value.ref 66, Value.ref 67, Value.ref 68, Value.int 268 0, Value.int 53 0, Value.str (Str.ofString "/claim/cut.py") 269] }
noncomputable def ob702 (P : Params) : Obj := { cls := .type "function", data := .func (fdOf (Str.ofString "_netrclex._read_char") (.str (Str.ofString "cpy313.netrc") 241) (.ref 69) (mth 1)) }
noncomputable def ob732 (P : Params) : Obj := { cls := Value.type "tuple", data := Data.seq #[Value.str (Str.ofString "self") 274, Value.str (Str.ofString "token") 275, Value.str (Str.ofString "fiter") 276, Value.str (Str.ofString "ch") 277] }
noncomputable def ob752 (P : Params) : Obj := { cls := .none, data := .func (fd0 (Str.ofString "_netrclex.get_token") (mth 2)) }
noncomputable def ob762 (P : Params) : Obj := { cls := Value.type "code", data := Data.fields #[Value.str (Str.ofString "get_token") 271, Value.str (Str.ofString "_netrclex.get_token") 272, Value.str (Str.ofString "/claim/cut.py") 273, Value.int 59 0, Value.int 1 0, Value.int 0 0, Value.int 0 0, Value.int 3 0, Value.ref 71, Value.bool true, Value.int 181 0, Value.ref 72, Value.none, Value.ref 73, Value.ref 74, Value.ref 75, Value.int 278 0, Value.int 59 0, Value.str (Str.ofString "/claim/cut.py") 279] }
noncomputable def ob772 (P : Params) : Obj := { cls := .type "function", data := .func (fdOf (Str.ofString "_netrclex.get_token") (.str (Str.ofString "cpy313.netrc") 241) (.ref 76) (mth 2)) }
noncomputable def ob802 (P : Params) : Obj := { cls := Value.type "tuple", data := Data.seq #[Value.str (Str.ofString "self") 284, Value.str (Str.ofString "token") 285] }
noncomputable def ob822 (P : Params) : Obj := { cls := .none, data := .func (fd0 (Str.ofString "_netrclex.push_token") (mth 3)) }
noncomputable def ob832 (P : Params) : Obj := { cls := Value.type "code", data := Data.fields #[Value.str (Str.ofString "push_token") 281, Value.str (Str.ofString "_netrclex.push_token") 282, Value.str (Str.ofString "/claim/cut.py") 283, Value.int 86 0, Value.int 2 0, Value.int 0 0, Value.int 0 0, Value.int 3 0, Value.ref 78, Value.bool true, Value.int 181 0, Value.ref 79, Value.none, Value.ref 80, Value.ref 81, Value.ref 82, Value.int 286 0, Value.int 86 0, Value.str (Str.ofString "/claim/cut.py") 287] }
noncomputable def ob842 (P : Params) : Obj := { cls := .type "function", data := .func (fdOf (Str.ofString "_netrclex.push_token") (.str (Str.ofString "cpy313.netrc") 241) (.ref 83) (mth 3)) }
noncomputable def ob852 (P : Params) : Obj := { cls := Value.type "tuple", data := Data.seq #[Value.str (Str.ofString "instream") 289, Value.str (Str.ofString "lineno") 290, Value.str (Str.ofString "pushback") 291, Value.str (Str.ofString "whitespace") 292] }
noncomputable def ob862 (P : Params) : Obj := { cls := Value.type "dict", data := Data.dict #[{ hash := PyData.keyHash P (Str.ofString "__module__"), key := Value.str (Str.ofString "__module__") 250, val := Value.str (Str.ofString "cpy313.netrc") 241 }, { hash := PyData.keyHash P (Str.ofString "__firstlineno__"), key := Value.str (Str.ofString "__firstlineno__") 254, val := Value.int 45 253 }, { hash := PyData.keyHash P (Str.ofString "__init__"), key := Value.str (Str.ofString "__init__") 262, val := Value.ref 63 }, { hash := PyData.keyHash P (Str.ofString "_read_char"), key := Value.str (Str.ofString "_read_char") 270, val := Value.ref 70 }, { hash := PyData.keyHash P (Str.ofString "get_token"), key := Value.str (Str.ofString "get_token") 280, val := Value.ref 77 }, { hash := PyData.keyHash P (Str.ofString "push_token"), key := Value.str (Str.ofString "push_token") 288, val := Value.ref 84 }, { hash := PyData.keyHash P (Str.ofString "__static_attributes__"), key := Value.str (Str.ofString "__static_attributes__") 293, val := Value.ref 85 }, { hash := PyData.keyHash P (Str.ofString "__dict__"), key := Value.str (Str.ofString "__dict__") 295, val := Value.ref 88 }, { hash := PyData.keyHash P (Str.ofString "__weakref__"), key := Value.str (Str.ofString "__weakref__") 297, val := Value.ref 89 }, { hash := PyData.keyHash P (Str.ofString "__doc__"), key := Value.str (Str.ofString "__doc__") 298, val := Value.none }] 4 }
noncomputable def ob872 (P : Params) : Obj := { cls := Value.type "type", data := Data.cls { name := Str.ofString "_netrclex", bases := [Value.type "object"], mro := [Value.ref 87, Value.type "object"], ns := 86, qualname := Str.ofString "_netrclex" }, slots := #[none, none, some (Value.str (Str.ofString "_netrclex") 243), some (Value.str (Str.ofString "_netrclex") 251), some (Value.builtin "object.__new__"), some (Value.bool true)] }
noncomputable def ob882 (P : Params) : Obj := { cls := Value.type "getset_descriptor", data := Data.fields #[Value.str (Str.ofString "__dict__") 294, Value.ref 87, Value.builtin "function.__dict__", Value.builtin "function.__dict__#set"] }
noncomputable def ob892 (P : Params) : Obj := { cls := Value.type "getset_descriptor", data := Data.fields #[Value.str (Str.ofString "__weakref__") 296, Value.ref 87, Value.builtin "ExceptionGroup.__weakref__", Value.none] }
noncomputable def ob902 (P : Params) : Obj := { cls := Value.type "super", data := Data.fields #[Value.ref 87, Value.ref 87, Value.ref 87] }
noncomputable def ob912 (P : Params) : Obj := { cls := Value.type "builtin_function_or_method", data := Data.fields #[Value.builtin "object.__init_subclass__", Value.ref 87] }
noncomputable def ob942 (P : Params) : Obj := { cls := Value.type "tuple", data := Data.seq #[Value.str (Str.ofString "text") 306, Value.str (Str.ofString "tape") 307, Value.str (Str.ofString "_law_read") 308] }
noncomputable def ob952 (P : Params) : Obj := { cls := Value.type "tuple", data := Data.seq #[Value.str (Str.ofString "left") 309] }
noncomputable def ob962 (P : Params) : Obj := { cls := .none, data := .func (fd0 (Str.ofString "_law_tape") (stAt Pr 9)) }
noncomputable def ob972 (P : Params) : Obj := { cls := Value.type "code", data := Data.fields #[Value.str (Str.ofString "_law_tape") 303, Value.str (Str.ofString "_law_tape") 304, Value.str (Str.ofString "/claim/cut.py") 305, Value.int 89 0, Value.int 1 0, Value.int 0 0, Value.int 0 0, Value.int 3 0, Value.ref 92, Value.bool true, Value.int 181 0, Value.ref 93, Value.none, Value.ref 94, Value.ref 95, Value.ref 96, Value.int 310 0, Value.int 89 0, Value.str (Str.ofString "/claim/cut.py") 311] }
noncomputable def ob982 (P : Params) : Obj := { cls := .type "function", data := .func (fdOf (Str.ofString "_law_tape") (.str (Str.ofString "law_mr0160_02") 301) (.ref 97) (stAt Pr 9)) }
noncomputable def ob1012 (P : Params) : Obj := { cls := .none, data := .func (fd0 (Str.ofString "_law_file") (stAt Pr 10)) }
noncomputable def ob1022 (P : Params) : Obj := { cls := Value.type "code", data := Data.fields #[Value.str (Str.ofString "_law_file") 313, Value.str (Str.ofString "_law_file") 314, Value.str (Str.ofString "/claim/cut.py") 315, Value.int 99 0, Value.int 1 0, Value.int 0 0, Value.int 0 0, Value.int 3 0, Value.ref 99, Value.bool true, Value.int 181 0, Value.ref 100, Value.none, Value.none, Value.none, Value.ref 101, Value.int 316 0, Value.int 99 0, Value.str (Str.ofString "/claim/cut.py") 317] }
noncomputable def ob1032 (P : Params) : Obj := { cls := .type "function", data := .func (fdOf (Str.ofString "_law_file") (.str (Str.ofString "law_mr0160_02") 301) (.ref 102) (stAt Pr 10)) }
noncomputable def ob3f (P : Params) : Obj := { cls := Value.type "dict", data := Data.dict #[{ hash := PyData.keyHash P (Str.ofString "__name__"), key := Value.str (Str.ofString "__name__") 165, val := Value.str (Str.ofString "law_mr0160_02") 301 }, { hash := PyData.keyHash P (Str.ofString "__doc__"), key := Value.str (Str.ofString "__doc__") 166, val := Value.none }, { hash := PyData.keyHash P (Str.ofString "__package__"), key := Value.str (Str.ofString "__package__") 167, val := Value.none }, { hash := PyData.keyHash P (Str.ofString "__loader__"), key := Value.str (Str.ofString "__loader__") 168, val := Value.builtin "__main__.__loader__#opaque" }, { hash := PyData.keyHash P (Str.ofString "__spec__"), key := Value.str (Str.ofString "__spec__") 169, val := Value.none }, { hash := PyData.keyHash P (Str.ofString "__annotations__"), key := Value.str (Str.ofString "__annotations__") 170, val := Value.ref 6 }, { hash := PyData.keyHash P (Str.ofString "__builtins__"), key := Value.str (Str.ofString "__builtins__") 171, val := Value.ref 4 }, { hash := PyData.keyHash P (Str.ofString "__file__"), key := Value.str (Str.ofString "__file__") 173, val := Value.str (Str.ofString "/claim/cut.py") 172 }, { hash := PyData.keyHash P (Str.ofString "__cached__"), key := Value.str (Str.ofString "__cached__") 174, val := Value.none }, { hash := PyData.keyHash P (Str.ofString "heappop"), key := Value.str (Str.ofString "heappop") 197, val := Value.ref 21 }, { hash := PyData.keyHash P (Str.ofString "heapreplace"), key := Value.str (Str.ofString "heapreplace") 206, val := Value.ref 28 }, { hash := PyData.keyHash P (Str.ofString "heapify"), key := Value.str (Str.ofString "heapify") 215, val := Value.ref 35 }, { hash := PyData.keyHash P (Str.ofString "_siftdown"), key := Value.str (Str.ofString "_siftdown") 227, val := Value.ref 42 }, { hash := PyData.keyHash P (Str.ofString "_siftup"), key := Value.str (Str.ofString "_siftup") 240, val := Value.ref 49 }, { hash := PyData.keyHash P (Str.ofString "_netrclex"), key := Value.str (Str.ofString "_netrclex") 300, val := Value.ref 87 }, { hash := PyData.keyHash P (Str.ofString "_law_tape"), key := Value.str (Str.ofString "_law_tape") 312, val := Value.ref 98 }, { hash := PyData.keyHash P (Str.ofString "_law_file"), key := Value.str (Str.ofString "_law_file") 318, val := Value.ref 103 }, { hash := PyData.keyHash P (Str.ofString "_law_by_lines"), key := Value.str (Str.ofString "_law_by_lines") 332, val := Value.ref 110 }, { hash := PyData.keyHash P (Str.ofString "_law_by_heap"), key := Value.str (Str.ofString "_law_by_heap") 343, val := Value.ref 117 }, { hash := PyData.keyHash P (Str.ofString "_law_least_cost"), key := Value.str (Str.ofString "_law_least_cost") 349, val := Value.ref 122 }, { hash := PyData.keyHash P (Str.ofString "law"), key := Value.str (Str.ofString "law") 355, val := Value.ref 127 }] 21 }
noncomputable def ob12f (P : Params) : Obj := { cls := Value.none, data := Data.fields #[Value.int 2 0, Value.int 0 0, Value.ref 20, Value.int 10 0, Value.int 0 0, Value.ref 27, Value.int 15 0, Value.int 0 0, Value.ref 34, Value.int 19 0, Value.int 0 0, Value.ref 41, Value.int 30 0, Value.int 0 0, Value.ref 48, Value.int 45 0, Value.int 0 0, Value.ref 55, Value.int 89 0, Value.int 0 0, Value.ref 97, Value.int 99 0, Value.int 0 0, Value.ref 102, Value.int 110 0, Value.int 0 0, Value.ref 109, Value.int 127 0, Value.int 0 0, Value.ref 116, Value.int 135 0, Value.int 0 0, Value.ref 121, Value.int 144 0, Value.int 0 0, Value.ref 126] }
noncomputable def ob106f (P : Params) : Obj := { cls := Value.type "tuple", data := Data.seq #[Value.str (Str.ofString "leaves") 322, Value.str (Str.ofString "sums") 323, Value.str (Str.ofString "turns") 324, Value.str (Str.ofString "fronts") 325, Value.str (Str.ofString "told") 326, Value.str (Str.ofString "turn") 327, Value.str (Str.ofString "total") 328, Value.str (Str.ofString "hand") 329] }
noncomputable def ob108f (P : Params) : Obj := { cls := .none, data := .func (fd0 (Str.ofString "_law_by_lines") (stAt Pr 11)) }
noncomputable def ob109f (P : Params) : Obj := { cls := Value.type "code", data := Data.fields #[Value.str (Str.ofString "_law_by_lines") 319, Value.str (Str.ofString "_law_by_lines") 320, Value.str (Str.ofString "/claim/cut.py") 321, Value.int 110 0, Value.int 3 0, Value.int 0 0, Value.int 0 0, Value.int 3 0, Value.ref 104, Value.bool true, Value.int 181 0, Value.ref 105, Value.none, Value.ref 106, Value.ref 107, Value.ref 108, Value.int 330 0, Value.int 110 0, Value.str (Str.ofString "/claim/cut.py") 331] }
noncomputable def ob110f (P : Params) : Obj := { cls := .type "function", data := .func (fdOf (Str.ofString "_law_by_lines") (.str (Str.ofString "law_mr0160_02") 301) (.ref 109) (stAt Pr 11)) }
noncomputable def ob113f (P : Params) : Obj := { cls := Value.type "tuple", data := Data.seq #[Value.str (Str.ofString "heap") 336, Value.str (Str.ofString "told") 337, Value.str (Str.ofString "turn") 338, Value.str (Str.ofString "first") 339, Value.str (Str.ofString "second") 340] }
noncomputable def ob115f (P : Params) : Obj := { cls := .none, data := .func (fd0 (Str.ofString "_law_by_heap") (stAt Pr 12)) }
noncomputable def ob116f (P : Params) : Obj := { cls := Value.type "code", data := Data.fields #[Value.str (Str.ofString "_law_by_heap") 333, Value.str (Str.ofString "_law_by_heap") 334, Value.str (Str.ofString "/claim/cut.py") 335, Value.int 127 0, Value.int 1 0, Value.int 0 0, Value.int 0 0, Value.int 3 0, Value.ref 111, Value.bool true, Value.int 181 0, Value.ref 112, Value.none, Value.ref 113, Value.ref 114, Value.ref 115, Value.int 341 0, Value.int 127 0, Value.str (Str.ofString "/claim/cut.py") 342] }
noncomputable def ob117f (P : Params) : Obj := { cls := .type "function", data := .func (fdOf (Str.ofString "_law_by_heap") (.str (Str.ofString "law_mr0160_02") 301) (.ref 116) (stAt Pr 12)) }
noncomputable def ob120f (P : Params) : Obj := { cls := .none, data := .func (fd0 (Str.ofString "_law_least_cost") (stAt Pr 13)) }
noncomputable def ob121f (P : Params) : Obj := { cls := Value.type "code", data := Data.fields #[Value.str (Str.ofString "_law_least_cost") 344, Value.str (Str.ofString "_law_least_cost") 345, Value.str (Str.ofString "/claim/cut.py") 346, Value.int 135 0, Value.int 1 0, Value.int 0 0, Value.int 0 0, Value.int 3 0, Value.ref 118, Value.bool true, Value.int 181 0, Value.ref 119, Value.none, Value.none, Value.none, Value.ref 120, Value.int 347 0, Value.int 135 0, Value.str (Str.ofString "/claim/cut.py") 348] }
noncomputable def ob122f (P : Params) : Obj := { cls := .type "function", data := .func (fdOf (Str.ofString "_law_least_cost") (.str (Str.ofString "law_mr0160_02") 301) (.ref 121) (stAt Pr 13)) }
noncomputable def ob125f (P : Params) : Obj := { cls := .none, data := .func (fd0 (Str.ofString "law") (stAt Pr 14)) }
noncomputable def ob126f (P : Params) : Obj := { cls := Value.type "code", data := Data.fields #[Value.str (Str.ofString "law") 350, Value.str (Str.ofString "law") 351, Value.str (Str.ofString "/claim/cut.py") 352, Value.int 144 0, Value.int 1 0, Value.int 0 0, Value.int 0 0, Value.int 3 0, Value.ref 123, Value.bool true, Value.int 181 0, Value.ref 124, Value.none, Value.none, Value.none, Value.ref 125, Value.int 353 0, Value.int 144 0, Value.str (Str.ofString "/claim/cut.py") 354] }
noncomputable def ob127f (P : Params) : Obj := { cls := .type "function", data := .func (fdOf (Str.ofString "law") (.str (Str.ofString "law_mr0160_02") 301) (.ref 126) (stAt Pr 14)) }
noncomputable def tr_a (P : Params) : BT := .node (boot_o_0 P) (.node (boot_o_1 P) (.node (boot_o_3 P) (.node (boot_o_7 P) .nil .nil) (.node (boot_o_7 P) .nil .nil)) (.node (boot_o_5 P) (.node (boot_o_9 P) .nil .nil) (.node (ob13a P) .nil .nil))) (.node (boot_o_2 P) (.node (boot_o_4 P) (.node (boot_o_8 P) .nil .nil) (.node (boot_o_8 P) .nil .nil)) (.node (boot_o_6 P) (.node (boot_o_10 P) .nil .nil) (.node (ob14a P) .nil .nil)))
noncomputable def tr_1 (P : Params) : BT := .node (boot_o_0 P) (.node (boot_o_1 P) (.node (ob31 P) (.node (boot_o_7 P) (.node (boot_o_7 P) (.node (ob311 P) .nil .nil) (.node (ob471 P) .nil .nil)) (.node (boot_o_8 P) (.node (boot_o_7 P) .nil .nil) .nil)) (.node (boot_o_7 P) (.node (ob191 P) (.node (ob351 P) .nil .nil) .nil) (.node (ob271 P) (.node (boot_o_7 P) .nil .nil) .nil))) (.node (boot_o_5 P) (.node (boot_o_9 P) (.node (ob171 P) (.node (ob331 P) .nil .nil) (.node (ob491 P) .nil .nil)) (.node (boot_o_7 P) (.node (ob411 P) .nil .nil) .nil)) (.node (ob13a P) (.node (ob211 P) (.node (boot_o_8 P) .nil .nil) .nil) (.node (boot_o_7 P) (.node (ob451 P) .nil .nil) .nil)))) (.node (boot_o_2 P) (.node (boot_o_4 P) (.node (boot_o_8 P) (.node (boot_o_8 P) (.node (boot_o_7 P) .nil .nil) (.node (ob481 P) .nil .nil)) (.node (ob241 P) (.node (ob401 P) .nil .nil) .nil)) (.node (ob121 P) (.node (ob201 P) (.node (boot_o_7 P) .nil .nil) .nil) (.node (ob281 P) (.node (boot_o_8 P) .nil .nil) .nil))) (.node (boot_o_6 P) (.node (boot_o_10 P) (.node (boot_o_7 P) (.node (ob341 P) .nil .nil) .nil) (.node (ob261 P) (.node (ob421 P) .nil .nil) .nil)) (.node (ob14a P) (.node (boot_o_7 P) (.node (ob381 P) .nil .nil) .nil) (.node (boot_o_8 P) (.node (boot_o_7 P) .nil .nil) .nil))))
noncomputable def tr_2 (P : Params) : BT := .node (boot_o_0 P) (.node (boot_o_1 P) (.node (ob32 P) (.node (boot_o_7 P) (.node (boot_o_7 P) (.node (ob311 P) (.node (ob632 P) .nil .nil) (.node (ob952 P) .nil .nil)) (.node (ob471 P) (.node (boot_o_8 P) .nil .nil) .nil)) (.node (boot_o_8 P) (.node (boot_o_7 P) (.node (boot_o_7 P) .nil .nil) (.node (ob1032 P) .nil .nil)) (.node (ob552 P) (.node (ob872 P) .nil .nil) .nil))) (.node (boot_o_7 P) (.node (ob191 P) (.node (ob351 P) (.node (boot_o_7 P) .nil .nil) (.node (boot_o_7 P) .nil .nil)) (.node (ob512 P) (.node (ob832 P) .nil .nil) .nil)) (.node (ob271 P) (.node (boot_o_7 P) (.node (ob752 P) .nil .nil) .nil) (.node (ob592 P) (.node (ob912 P) .nil .nil) .nil)))) (.node (boot_o_5 P) (.node (boot_o_9 P) (.node (ob171 P) (.node (ob331 P) (.node (boot_o_8 P) .nil .nil) (.node (ob972 P) .nil .nil)) (.node (ob491 P) (.node (boot_o_7 P) .nil .nil) .nil)) (.node (boot_o_7 P) (.node (ob411 P) (.node (ob732 P) .nil .nil) .nil) (.node (boot_o_7 P) (.node (ob892 P) .nil .nil) .nil))) (.node (ob13a P) (.node (ob211 P) (.node (boot_o_8 P) (.node (ob692 P) .nil .nil) (.node (ob1012 P) .nil .nil)) (.node (boot_o_7 P) (.node (ob852 P) .nil .nil) .nil)) (.node (boot_o_7 P) (.node (ob451 P) (.node (ob772 P) .nil .nil) .nil) (.node (ob612 P) (.node (boot_o_8 P) .nil .nil) .nil))))) (.node (boot_o_2 P) (.node (boot_o_4 P) (.node (boot_o_8 P) (.node (boot_o_8 P) (.node (boot_o_7 P) (.node (boot_o_7 P) .nil .nil) (.node (ob962 P) .nil .nil)) (.node (ob481 P) (.node (ob802 P) .nil .nil) .nil)) (.node (ob241 P) (.node (ob401 P) (.node (boot_o_8 P) .nil .nil) .nil) (.node (ob562 P) (.node (ob882 P) .nil .nil) .nil))) (.node (ob122 P) (.node (ob201 P) (.node (boot_o_7 P) (.node (ob682 P) .nil .nil) (.node (boot_o_8 P) .nil .nil)) (.node (ob522 P) (.node (ob842 P) .nil .nil) .nil)) (.node (ob281 P) (.node (boot_o_8 P) (.node (ob762 P) .nil .nil) .nil) (.node (boot_o_7 P) (.node (boot_o_7 P) .nil .nil) .nil)))) (.node (boot_o_6 P) (.node (boot_o_10 P) (.node (boot_o_7 P) (.node (ob341 P) (.node (ob662 P) .nil .nil) (.node (ob982 P) .nil .nil)) (.node (boot_o_7 P) (.node (ob822 P) .nil .nil) .nil)) (.node (ob261 P) (.node (ob421 P) (.node (boot_o_7 P) .nil .nil) .nil) (.node (boot_o_8 P) (.node (ob902 P) .nil .nil) .nil))) (.node (ob14a P) (.node (boot_o_7 P) (.node (ob381 P) (.node (ob702 P) .nil .nil) (.node (ob1022 P) .nil .nil)) (.node (ob542 P) (.node (ob862 P) .nil .nil) .nil)) (.node (boot_o_8 P) (.node (boot_o_7 P) (.node (boot_o_7 P) .nil .nil) .nil) (.node (ob622 P) (.node (ob942 P) .nil .nil) .nil)))))
noncomputable def tr_f (P : Params) : BT := .node (boot_o_0 P) (.node (boot_o_1 P) (.node (ob3f P) (.node (boot_o_7 P) (.node (boot_o_7 P) (.node (ob311 P) (.node (ob632 P) (.node (ob127f P) .nil .nil) .nil) (.node (ob952 P) .nil .nil)) (.node (ob471 P) (.node (boot_o_8 P) .nil .nil) (.node (boot_o_7 P) .nil .nil))) (.node (boot_o_8 P) (.node (boot_o_7 P) (.node (boot_o_7 P) .nil .nil) (.node (ob1032 P) .nil .nil)) (.node (ob552 P) (.node (ob872 P) .nil .nil) (.node (boot_o_8 P) .nil .nil)))) (.node (boot_o_7 P) (.node (ob191 P) (.node (ob351 P) (.node (boot_o_7 P) .nil .nil) (.node (boot_o_7 P) .nil .nil)) (.node (ob512 P) (.node (ob832 P) .nil .nil) (.node (ob115f P) .nil .nil))) (.node (ob271 P) (.node (boot_o_7 P) (.node (ob752 P) .nil .nil) (.node (boot_o_7 P) .nil .nil)) (.node (ob592 P) (.node (ob912 P) .nil .nil) (.node (boot_o_7 P) .nil .nil))))) (.node (boot_o_5 P) (.node (boot_o_9 P) (.node (ob171 P) (.node (ob331 P) (.node (boot_o_8 P) .nil .nil) (.node (ob972 P) .nil .nil)) (.node (ob491 P) (.node (boot_o_7 P) .nil .nil) (.node (ob113f P) .nil .nil))) (.node (boot_o_7 P) (.node (ob411 P) (.node (ob732 P) .nil .nil) (.node (boot_o_8 P) .nil .nil)) (.node (boot_o_7 P) (.node (ob892 P) .nil .nil) (.node (ob121f P) .nil .nil)))) (.node (ob13a P) (.node (ob211 P) (.node (boot_o_8 P) (.node (ob692 P) .nil .nil) (.node (ob1012 P) .nil .nil)) (.node (boot_o_7 P) (.node (ob852 P) .nil .nil) (.node (ob117f P) .nil .nil))) (.node (boot_o_7 P) (.node (ob451 P) (.node (ob772 P) .nil .nil) (.node (ob109f P) .nil .nil)) (.node (ob612 P) (.node (boot_o_8 P) .nil .nil) (.node (ob125f P) .nil .nil)))))) (.node (boot_o_2 P) (.node (boot_o_4 P) (.node (boot_o_8 P) (.node (boot_o_8 P) (.node (boot_o_7 P) (.node (boot_o_7 P) .nil .nil) (.node (ob962 P) .nil .nil)) (.node (ob481 P) (.node (ob802 P) .nil .nil) (.node (boot_o_8 P) .nil .nil))) (.node (ob241 P) (.node (ob401 P) (.node (boot_o_8 P) .nil .nil) (.node (boot_o_7 P) .nil .nil)) (.node (ob562 P) (.node (ob882 P) .nil .nil) (.node (ob120f P) .nil .nil)))) (.node (ob12f P) (.node (ob201 P) (.node (boot_o_7 P) (.node (ob682 P) .nil .nil) (.node (boot_o_8 P) .nil .nil)) (.node (ob522 P) (.node (ob842 P) .nil .nil) (.node (ob116f P) .nil .nil))) (.node (ob281 P) (.node (boot_o_8 P) (.node (ob762 P) .nil .nil) (.node (ob108f P) .nil .nil)) (.node (boot_o_7 P) (.node (boot_o_7 P) .nil .nil) (.node (boot_o_8 P) .nil .nil))))) (.node (boot_o_6 P) (.node (boot_o_10 P) (.node (boot_o_7 P) (.node (ob341 P) (.node (ob662 P) .nil .nil) (.node (ob982 P) .nil .nil)) (.node (boot_o_7 P) (.node (ob822 P) .nil .nil) (.node (boot_o_7 P) .nil .nil))) (.node (ob261 P) (.node (ob421 P) (.node (boot_o_7 P) .nil .nil) (.node (ob106f P) .nil .nil)) (.node (boot_o_8 P) (.node (ob902 P) .nil .nil) (.node (ob122f P) .nil .nil)))) (.node (ob14a P) (.node (boot_o_7 P) (.node (ob381 P) (.node (ob702 P) .nil .nil) (.node (ob1022 P) .nil .nil)) (.node (ob542 P) (.node (ob862 P) .nil .nil) (.node (boot_o_7 P) .nil .nil))) (.node (boot_o_8 P) (.node (boot_o_7 P) (.node (boot_o_7 P) .nil .nil) (.node (ob110f P) .nil .nil)) (.node (ob622 P) (.node (ob942 P) .nil .nil) (.node (ob126f P) .nil .nil))))))
noncomputable def hp_a (P : Params) : Heap := ⟨Array.mk [boot_o_0 P, boot_o_1 P, boot_o_2 P, boot_o_3 P, boot_o_4 P, boot_o_5 P, boot_o_6 P, boot_o_7 P, boot_o_8 P, boot_o_9 P, boot_o_10 P, boot_o_7 P, boot_o_8 P, ob13a P, ob14a P], {}⟩
noncomputable def hp_f (P : Params) : Heap := ⟨Array.mk [boot_o_0 P, boot_o_1 P, boot_o_2 P, ob3f P, boot_o_4 P, boot_o_5 P, boot_o_6 P, boot_o_7 P, boot_o_8 P, boot_o_9 P, boot_o_10 P, boot_o_7 P, ob12f P, ob13a P, ob14a P, boot_o_7 P, boot_o_8 P, ob171 P, boot_o_7 P, ob191 P, ob201 P, ob211 P, boot_o_7 P, boot_o_8 P, ob241 P, boot_o_7 P, ob261 P, ob271 P, ob281 P, boot_o_7 P, boot_o_8 P, ob311 P, boot_o_7 P, ob331 P, ob341 P, ob351 P, boot_o_7 P, boot_o_8 P, ob381 P, boot_o_7 P, ob401 P, ob411 P, ob421 P, boot_o_7 P, boot_o_8 P, ob451 P, boot_o_7 P, ob471 P, ob481 P, ob491 P, boot_o_7 P, ob512 P, ob522 P, boot_o_7 P, ob542 P, ob552 P, ob562 P, boot_o_7 P, boot_o_8 P, ob592 P, boot_o_7 P, ob612 P, ob622 P, ob632 P, boot_o_7 P, boot_o_8 P, ob662 P, boot_o_7 P, ob682 P, ob692 P, ob702 P, boot_o_7 P, boot_o_8 P, ob732 P, boot_o_7 P, ob752 P, ob762 P, ob772 P, boot_o_7 P, boot_o_8 P, ob802 P, boot_o_7 P, ob822 P, ob832 P, ob842 P, ob852 P, ob862 P, ob872 P, ob882 P, ob892 P, ob902 P, ob912 P, boot_o_7 P, boot_o_8 P, ob942 P, ob952 P, ob962 P, ob972 P, ob982 P, boot_o_7 P, boot_o_8 P, ob1012 P, ob1022 P, ob1032 P, boot_o_7 P, boot_o_8 P, ob106f P, boot_o_7 P, ob108f P, ob109f P, ob110f P, boot_o_7 P, boot_o_8 P, ob113f P, boot_o_7 P, ob115f P, ob116f P, ob117f P, boot_o_7 P, boot_o_8 P, ob120f P, ob121f P, ob122f P, boot_o_7 P, boot_o_8 P, ob125f P, ob126f P, ob127f P], {}⟩
noncomputable abbrev ps0 : Pos := ⟨0, 0, 0, 0⟩
noncomputable def enA : Env := { scope := Pr.main.scope, locals := mainNs, globals := mainNs, cells := [], code := .ref 13, frame := some 14 }
noncomputable abbrev cdA : Code := .body (behindTheImports Pr) enA
noncomputable abbrev frA : List Frame := [topFrame ps0]
noncomputable abbrev an0 : Option Value := some (.ref 6)
noncomputable abbrev ps1 : Pos := ⟨44, 0, 44, 8⟩
noncomputable def gr1 : List Stmt := [stAt Pr 0, stAt Pr 1, stAt Pr 2, stAt Pr 3, stAt Pr 4, stAt Pr 5, stAt Pr 6]
noncomputable abbrev ps2 : Pos := ⟨99, 0, 109, 15⟩
noncomputable def gr2 : List Stmt := [stAt Pr 7, stAt Pr 8, stAt Pr 9, stAt Pr 10]
noncomputable abbrev ps3 : Pos := ⟨144, 0, 156, 84⟩
noncomputable def gr3 : List Stmt := [stAt Pr 11, stAt Pr 12, stAt Pr 13, stAt Pr 14]
noncomputable abbrev st0 (w : World) (os : OsState) : SharedT := ⟨tr_a w.params, 15, {}, Array.mk [], {}, 187, os⟩
noncomputable abbrev st1 (w : World) (os : OsState) : SharedT := ⟨tr_1 w.params, 50, {}, Array.mk [], {}, 243, os⟩
noncomputable abbrev st2 (w : World) (os : OsState) : SharedT := ⟨tr_2 w.params, 104, {}, Array.mk [], {}, 319, os⟩
noncomputable abbrev st3 (w : World) (os : OsState) : SharedT := ⟨tr_f w.params, 128, {}, Array.mk [], {}, 356, os⟩
noncomputable abbrev stF (w : World) (os : OsState) : Shared := ⟨hp_f w.params, Array.mk [], {}, 356, os⟩
theorem tp_pre (w : World) (os : OsState) : topGo treeTable Pr w 11 an0 12 ⟨boot_heap w.params, Array.mk [], boot_drawn, boot_toks, os⟩ (topStub Pr) = some (⟨hp_a w.params, Array.mk [], {}, 187, os⟩, ⟨denote treeTable cdA, cdA, ps0, frA⟩) := by kernel_rfl
theorem tp_blk (w : World) (os : OsState) : segRun treeTable Pr w 11 an0 1 1 ⟨hp_a w.params, Array.mk [], {}, 187, os⟩ (blockOf (behindTheImports Pr) enA cdA ps0 frA) = some (.next, (st0 w os).abs, cdA, ps0) := by kernel_rfl
theorem tp_1 (w : World) (os : OsState) : segRunT treeTable Pr w 11 an0 1 181 (st0 w os) (piecesOf gr1 enA cdA ps0 frA) = some (.next, st1 w os, cdA, ps1) := by
  first | (rw [PySem.W.Fast.te10110043849684766642, PySem.W.Fast.te14364793385576792824]; kernel_rfl) | kernel_rfl
theorem tp_2 (w : World) (os : OsState) : segRunT treeTable Pr w 11 an0 1 391 (st1 w os) (piecesOf gr2 enA cdA ps1 frA) = some (.next, st2 w os, cdA, ps2) := by
  first | (rw [PySem.W.Fast.te10110043849684766642, PySem.W.Fast.te14364793385576792824]; kernel_rfl) | kernel_rfl
theorem tp_3 (w : World) (os : OsState) : segRunT treeTable Pr w 11 an0 1 122 (st2 w os) (piecesOf gr3 enA cdA ps2 frA) = some (.next, st3 w os, cdA, ps3) := by
  first | (rw [PySem.W.Fast.te10110043849684766642, PySem.W.Fast.te14364793385576792824]; kernel_rfl) | kernel_rfl
theorem tp_fin (w : World) (os : OsState) : topRun treeTable Pr w 11 an0 2 (st3 w os).abs ⟨doneF .next, cdA, ps3, frA⟩ = some (stF w os) := by kernel_rfl
theorem tp_cut : behindTheImports Pr = gr1 ++ (gr2 ++ (gr3 ++ [])) := by kernel_rfl
theorem tp_rest (w : World) (os : OsState) : topRun treeTable Pr w 11 an0 (181 + (391 + (122 + 2))) (st0 w os).abs (restOf (gr1 ++ (gr2 ++ (gr3 ++ []))) enA cdA ps0 [topFrame ps0]) = some (stF w os) :=
  piece_app (segRun_of (tp_1 w os)) (piece_app (segRun_of (tp_2 w os)) (piece_app (segRun_of (tp_3 w os)) (piece_nil (tp_fin w os))))
theorem tp_body (w : World) (os : OsState) : topRun treeTable Pr w 11 an0 (181 + (391 + (122 + 2))) (st0 w os).abs (restOf (behindTheImports Pr) enA cdA ps0 [topFrame ps0]) = some (stF w os) :=
  (congrArg (fun b => topRun treeTable Pr w 11 an0 (181 + (391 + (122 + 2))) (st0 w os).abs (restOf b enA cdA ps0 [topFrame ps0])) tp_cut).trans (tp_rest w os)
theorem tp_run (w : World) (os : OsState) : topRun treeTable Pr w 11 an0 (12 + (1 + (181 + (391 + (122 + 2))))) ⟨boot_heap w.params, Array.mk [], boot_drawn, boot_toks, os⟩ (topStub Pr) = some (stF w os) :=
  go_top (tp_pre w os) (piece_block (b := behindTheImports Pr) (env := enA) (c := cdA) (pos := ps0) (tp_blk w os) (tp_body w os))
theorem tp_size (w : World) : ((boot_heap w.params).isNs mainGlobals && (Array.mk [] : Array GenState).size == 0, (boot_heap w.params).objs.size, (boot_heap w.params).nsMap mainGlobals "__annotations__") = (true, 11, an0) := by kernel_rfl
noncomputable abbrev xtr (s : Shared) : Bool := xlAt Qv [] s && recOk (RowW.records PySem.Challenge.rw_mr0160_02.row.toRowW) s
theorem tp_l1 (w : World) (os : OsState) : (staticsOk (importedModules Pr.main.body) (boot_heap w.params) (hp_f w.params) && namesBound Pr (hp_f w.params) && gensDone (stF w os) && laidKept (boot_heap w.params) (hp_f w.params)) = true := by kernel_rfl
theorem tp_l2 (w : World) (os : OsState) : openSeen Qv [] (importedModules Pr.main.body) xtr true (stF w os) = openGood Qv [] := by kernel_rfl
theorem tp_l3 (w : World) (os : OsState) : Hook.obs HH2 (stF w os) = Hook.val HH2 w := by kernel_rfl
theorem tp_open : ∀ w : World, (fencedOpening treeTable Pr w 1508).map (fun s => (s.heap, s.gens, s.drawn, s.toks)) = some (boot_heap w.params, Array.mk [], boot_drawn, boot_toks) :=
  boot_open (by kernel_rfl) (by decide) (fun s => by kernel_rfl)
theorem left2 : LeftO PySem.Challenge.rw_mr0160_02.row.prog Qv [] (fun s => xlAt Qv [] s && recOk (RowW.records PySem.Challenge.rw_mr0160_02.row.toRowW) s) (Hook.obs HH2) (Hook.val HH2) 1508 true :=
  LeftO.of_pieces tp_open tp_size tp_run (by decide) (fun w => funext fun os => looks_pair (tp_l1 w os) (looks_pair (tp_l2 w os) (tp_l3 w os)))
end
end Mine
section
open PySem PySem.Spec PySem.Calls PyProof.Rows PySem.P PySem.W
set_option maxHeartbeats 8000000 in
theorem PySem.Challenge.cw_mr0160_02_holds : PySem.Challenge.rw_mr0160_02.Holds := by
  w_on
  refine holds_law Mine.ws fun said => ?_
  refine holds_open (q := Mine.Qv) (loose := []) (Xt := fun s => xlAt Mine.Qv [] s && recOk (RowW.records PySem.Challenge.rw_mr0160_02.row.toRowW) s) (XP := XL Mine.Qv []) (Yf := Hook.obs Mine.HH2) (Ya := Hook.val Mine.HH2) (YP := Hook.says Mine.HH2) (N := 1508) Mine.left2 (Hook.of Mine.HH2) (Hook.keeps Mine.HH2) (fun s e => xl_of s (Bool.and_eq_true_iff.mp e).1) XL.keeps (by rfl) (by rfl) (by rfl) (fun s e => recFacts_of (Bool.and_eq_true_iff.mp e).2) (by rfl) (by first | assumption | decide +kernel) (by decide +kernel) ⟨rfl, rfl, rfl, rfl, rfl, by decide +kernel⟩ ?hw ?hc
  (case hw => w_witness2)
  intro w s₀ s₁ mg mb G Y fa o pm cd doc dV kV ho hd hcd hD hmg hg args vals as hpre hlay hrd hwl hlo
  have KX := km_in_of Y
  have KT := km_tabs_of Y
  refine Ground.open G ?_
  intro T B D TE TW
  wrow_args hpre hlay hrd hwl hlo
  have hg0 : s₁.heap.Ns mainGlobals mg := T.g
  have hfa : fa = 127 := by
    have e : mg (Str.ofString "law") = some (.ref 127) := mg_of KX T.g (by kernel_rfl)
    have e2 : mg (Str.ofString "law") = some (.ref fa) := hmg
    rw [e] at e2
    cases e2; rfl
  subst hfa
  all_lens
  rename_i l _ _ _ _ _ _ _ Sx vs _ hL _ _ _ _ hlen _ hints _
  clear hd hcd hD hmg
  let TT : Mine.TI := ⟨PySem.Challenge.rw_mr0160_02.row.prog, w, s₁.heap, s₁.os, 93, 97⟩
  have hKX : Frag.In _ TT.h₁ := KX
  have htab : s₁.heap.get? 93 = some { cls := .none, data := .fields #[] } := KT 93 (.head _)
  have hg0 : TT.h₁.Ns mainGlobals mg := T.g
  have nt : ∀ {n : Nat}, decide (n = 93) = false → n ≠ TT.tb := fun h e => absurd e (of_decide_eq_false h)
  have lim : Mine.Lim TT := ⟨nt rfl, T.nolimit⟩
  have bt : ∀ (x : Str) (v : Value), mg x = none → x ≠ "__name__" → bootBuiltins x = some v → Mine.BuiltIs TT x v := fun x v h1 h2 h3 => ⟨mg, mb, T.g, h1, T.b, (T.builtins x h2).trans h3⟩
  have tp : Mine.Tp TT := by
    refine ⟨nt rfl, nt rfl, bt _ _ (mg_none_of KX T.g (by kernel_rfl)) (by decide +kernel) (by kernel_rfl), ?_, ?_, ?_, ?_, ?_⟩
    · exact ⟨21, _, _, ⟨mg, T.g, Mine.mg_is hKX hg0 (v := .ref 21) (by kernel_rfl)⟩, Mine.defAt_of hKX lim rfl rfl (nt rfl) rfl rfl (nt rfl) rfl rfl rfl⟩
    · exact ⟨28, _, _, ⟨mg, T.g, Mine.mg_is hKX hg0 (v := .ref 28) (by kernel_rfl)⟩, Mine.defAt_of hKX lim rfl rfl (nt rfl) rfl rfl (nt rfl) rfl rfl rfl⟩
    · exact ⟨35, _, _, ⟨mg, T.g, Mine.mg_is hKX hg0 (v := .ref 35) (by kernel_rfl)⟩, Mine.defAt_of hKX lim rfl rfl (nt rfl) rfl rfl (nt rfl) rfl rfl rfl⟩
    · exact ⟨42, _, _, ⟨mg, T.g, Mine.mg_is hKX hg0 (v := .ref 42) (by kernel_rfl)⟩, Mine.defAt_of hKX lim rfl rfl (nt rfl) rfl rfl (nt rfl) rfl rfl rfl⟩
    · exact ⟨49, _, _, ⟨mg, T.g, Mine.mg_is hKX hg0 (v := .ref 49) (by kernel_rfl)⟩, Mine.defAt_of hKX lim rfl rfl (nt rfl) rfl rfl (nt rfl) rfl rfl rfl⟩
  have tq : Mine.Tq TT := by
    refine ⟨tp, ?_, ?_, ?_, ?_, ?_, ?_⟩ <;> exact bt _ _ (mg_none_of KX T.g (by kernel_rfl)) (by decide +kernel) (by kernel_rfl)
  have hN : TT.h₁.Ns 86 (s₁.heap.nsMap 86) := .of_isNs (isNs_of_in KX (by kernel_rfl))
  have no : ∀ x, nsIn _ 86 x = some none → s₁.heap.nsMap 86 x = none := fun x e => ns_none_of hKX hN e
  have tc : Mine.Tc TT 87 86 (s₁.heap.nsMap 86) := by
    refine ⟨⟨⟨⟨_, _, _, _, _, _, _, _, _, _, _, _, KX 87 _ rfl⟩, hN⟩, nt rfl, nt rfl, no _ (by kernel_rfl), no _ (by kernel_rfl), no _ (by kernel_rfl)⟩, ?_, no _ (by kernel_rfl), no _ (by kernel_rfl), no _ (by kernel_rfl), no _ (by kernel_rfl), no _ (by kernel_rfl), ?_, ?_, ?_, lim⟩
    · have e := KX 87 _ rfl
      intro z
      have z' : s₁.heap.get? 87 = none := z
      rw [e] at z'; cases z'
    · exact ⟨63, _, _, _, Mine.mg_is hKX hN (v := .ref 63) (by kernel_rfl), KX 63 _ rfl, rfl, rfl, Mine.defAt_of hKX lim rfl rfl (nt rfl) rfl rfl (nt rfl) rfl rfl rfl⟩
    · exact ⟨70, _, _, _, Mine.mg_is hKX hN (v := .ref 70) (by kernel_rfl), KX 70 _ rfl, rfl, rfl, Mine.defAt_of hKX lim rfl rfl (nt rfl) rfl rfl (nt rfl) rfl rfl rfl⟩
    · exact ⟨77, _, _, _, Mine.mg_is hKX hN (v := .ref 77) (by kernel_rfl), KX 77 _ rfl, rfl, rfl, Mine.defAt_of hKX lim rfl rfl (nt rfl) rfl rfl (nt rfl) rfl rfl rfl⟩
  have tn : Mine.Tn TT mg 87 := by
    refine ⟨⟨T.g, nt rfl, ?_, ?_⟩, ⟨mg, T.g, Mine.mg_is hKX hg0 (v := .ref 87) (by kernel_rfl)⟩, ?_⟩
    · exact ⟨_, _, _, _, _, _, _, _, _, KX 97 _ rfl, rfl, rfl, rfl, rfl, rfl, rfl, rfl, rfl, nt rfl⟩
    · obtain ⟨bm, ob, b1, b2, b3, b4, b5, b6⟩ := T.bmain
      refine ⟨bm, ob, b1, b2, ?_, ?_, b3, b4, b5, b6⟩
      · rintro rfl
        have e := KX 3 _ rfl
        rw [show mainGlobals = 3 from rfl, e] at b3
        cases b3
        have b4' : (Value.type "dict") = Value.type "module" := b4
        exact absurd b4' (by decide)
      · rintro rfl
        have b3' : s₁.heap.get? 93 = some ob := b3
        rw [htab] at b3'
        cases b3'; cases b4
    · exact ⟨98, _, ⟨mg, T.g, Mine.mg_is hKX hg0 (v := .ref 98) (by kernel_rfl)⟩, Mine.defAt_of hKX lim rfl rfl (nt rfl) rfl rfl (nt rfl) rfl rfl rfl⟩
  have tl : Mine.Tl TT (s₁.heap.nsMap 86) := by
    refine ⟨bt _ _ (mg_none_of KX T.g (by kernel_rfl)) (by decide +kernel) (by kernel_rfl), bt _ _ (mg_none_of KX T.g (by kernel_rfl)) (by decide +kernel) (by kernel_rfl), bt _ _ (mg_none_of KX T.g (by kernel_rfl)) (by decide +kernel) (by kernel_rfl), ?_, ?_, ?_, ?_, ?_⟩
    · exact ⟨84, _, _, _, Mine.mg_is hKX hN (v := .ref 84) (by kernel_rfl), KX 84 _ rfl, rfl, Mine.defAt_of hKX lim rfl rfl (nt rfl) rfl rfl (nt rfl) rfl rfl rfl⟩
    · exact ⟨103, _, _, ⟨mg, T.g, Mine.mg_is hKX hg0 (v := .ref 103) (by kernel_rfl)⟩, Mine.defAt_of hKX lim rfl rfl (nt rfl) rfl rfl (nt rfl) rfl rfl rfl⟩
    · exact ⟨110, _, _, ⟨mg, T.g, Mine.mg_is hKX hg0 (v := .ref 110) (by kernel_rfl)⟩, Mine.defAt_of hKX lim rfl rfl (nt rfl) rfl rfl (nt rfl) rfl rfl rfl⟩
    · exact ⟨117, _, _, ⟨mg, T.g, Mine.mg_is hKX hg0 (v := .ref 117) (by kernel_rfl)⟩, Mine.defAt_of hKX lim rfl rfl (nt rfl) rfl rfl (nt rfl) rfl rfl rfl⟩
    · exact ⟨122, _, _, ⟨mg, T.g, Mine.mg_is hKX hg0 (v := .ref 122) (by kernel_rfl)⟩, Mine.defAt_of hKX lim rfl rfl (nt rfl) rfl rfl (nt rfl) rfl rfl rfl⟩
  have dl : ∃ pm cd, Mine.DefAt TT 127 (Mine.lawFd pm cd) (Mine.fdB (Mine.stAt Mine.Pr 14)) :=
    ⟨_, _, Mine.defAt_of hKX lim rfl rfl (nt rfl) rfl rfl (nt rfl) rfl rfl rfl⟩
  obtain ⟨pmL, cdL, dL⟩ := dl
  have hne : Sx ≠ TT.tb := by
    intro e
    obtain ⟨ol, hol, hcl, _⟩ := hL
    have e' : Sx = 93 := e
    rw [e', htab] at hol
    cases hol
    cases hcl
  have hok : Mine.Ok TT [(TT.tb, .tab)] s₁ := by
    refine ⟨fun b o e _ => e, fun p hp => ?_, by simp [Mine.foots, Mine.foot], fun b hb => .inr (by simpa [Mine.foots, Mine.foot] using hb), hg, rfl⟩
    cases List.mem_singleton.mp hp
    exact ⟨⟨⟨_, _, KX 97 _ rfl, rfl, rfl, rfl⟩, htab⟩, htab⟩
  have rm : Mine.Rm callerA (0 + 13) := ⟨rfl, by decide, by decide⟩
  have hcall := Mine.law_call (Sx := Sx) (l := l) (k := 0) tq tc tn tl dL rm (Mine.topInts_of hne hL hints) (by omega)
  refine wpAny_mono (hcall.run s₁ [.ref Sx] hok ⟨_, _, rfl, rfl, rfl⟩) (fun v s' p => ?_) (fun _ _ e => e.elim)
  refine Mine.good_end rfl rfl (fun _ => rfl) ?_ p
  first | rfl | wrow_post
end
