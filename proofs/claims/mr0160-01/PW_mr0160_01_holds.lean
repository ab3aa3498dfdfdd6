import PyProof.Rows.All
import Wide.All
import OpenK.AllK
import Wide.FinOn
import Lean
import PySem.Challenge.RW_mr0160_01
set_option maxRecDepth 100000
set_option Elab.async false
set_option linter.all false
set_option compiler.extract_closed false
set_option genSizeOfSpec false
set_option genInjectivity true
section
open PySem PySem.Spec PySem.Calls PyProof.Rows PySem.P
namespace Mine

/-- values, without their tokens; tuples written out -/
inductive V where
  | none
  | bool (b : Bool)
  | int (i : Int)
  | str (s : Str)
  | tup (vs : List V)
  | ref (a : Addr)
  | ty (n : String)
  | bi (id : String)

mutual
noncomputable def Rel (h : Heap) : V → Value → Prop
  | .none, x => x = .none
  | .bool b, x => x = .bool b
  | .int i, x => ∃ t, x = .int i t
  | .str s, x => ∃ t, x = .str s t
  | .ref a, x => x = .ref a
  | .ty n, x => x = .type n
  | .bi i, x => x = .builtin i
  | .tup vs, x => ∃ a items n, x = .ref a ∧ IsT h a items n ∧ RelL h vs items.toList
noncomputable def RelL (h : Heap) : List V → List Value → Prop
  | [], xs => xs = []
  | v :: vs, xs => ∃ x ys, xs = x :: ys ∧ Rel h v x ∧ RelL h vs ys
end

noncomputable def TupKeep (h h' : Heap) : Prop := ∀ a items n, IsT h a items n → IsT h' a items n
mutual
theorem Rel.keep {h h' : Heap} (k : TupKeep h h') : ∀ {v : V} {x : Value}, Rel h v x → Rel h' v x
  | .none, _, r => by simpa [Rel] using r
  | .bool _, _, r => by simpa [Rel] using r
  | .int _, _, r => by simpa [Rel] using r
  | .str _, _, r => by simpa [Rel] using r
  | .ref _, _, r => by simpa [Rel] using r
  | .ty _, _, r => by simpa [Rel] using r
  | .bi _, _, r => by simpa [Rel] using r
  | .tup vs, _, r => by
    simp only [Rel] at r ⊢
    obtain ⟨a, items, n, e, t, l⟩ := r
    exact ⟨a, items, n, e, k _ _ _ t, RelL.keep k l⟩
theorem RelL.keep {h h' : Heap} (k : TupKeep h h') : ∀ {vs : List V} {xs : List Value}, RelL h vs xs → RelL h' vs xs
  | [], _, r => by simpa [RelL] using r
  | v :: vs, _, r => by
    simp only [RelL] at r ⊢
    obtain ⟨x, ys, e, a, b⟩ := r
    exact ⟨x, ys, e, Rel.keep k a, RelL.keep k b⟩
end

/-- what is tracked -/
inductive Cell where
  | loc (env : Env) (ℓ : List (Str × V))
  | list (vs : List V)
  | lit (l : Addr) (i : Nat)
  | rit (x left step : Int)
  | tit (vs : List V)
  | enl (it l : Addr) (i : Nat)
  | tab
  | tab1 (c : Addr) (pos : Pos) (q : Str)
  | rng (a b c : Int)
  | sit (x : Str) (i : Nat)
  | ens (it : Addr) (x : Str) (i : Nat)
  | cit (m fn self : Addr) (dead : Bool)
  | inst (C d : Addr) (at' : List (Str × V))
  | clo (fd : FuncData) (c : Addr) (v : V)
  | fn (fd : FuncData)
  | meth (f self : Addr)

structure TI where
  prog : Program
  w : World
  h₁ : Heap
  os : OsState
  tb : Addr
  tc : Addr

noncomputable abbrev Cs := List (Addr × Cell)

noncomputable def ownCells (env : Env) : List Addr := if env.func.isSome && env.scope.names.any (fun p => p.2 == .cell) then env.cells.map (·.2) else []
noncomputable def foot (a : Addr) : Cell → List Addr
  | .loc env _ => a :: ownCells env
  | .list _ => [a]
  | .lit _ _ => [a]
  | .rit _ _ _ => [a]
  | .tit _ => [a]
  | .enl it _ _ => [a, it]
  | .tab => [a]
  | .tab1 c _ _ => [a, c]
  | .rng _ _ _ => [a]
  | .sit _ _ => [a]
  | .ens it _ _ => [a, it]
  | .cit m _ _ _ => [a, m]
  | .inst _ d _ => [a, d]
  | .clo _ c _ => [a, c]
  | .fn _ => [a]
  | .meth _ _ => [a]

noncomputable def foots (C : Cs) : List Addr := C.flatMap fun p => foot p.1 p.2

noncomputable def VarAt (h : Heap) (env : Env) (m : Str → Option Value) (x : Str) (v : V) : Prop :=
  (env.kindOf x = some .local ∧ ∃ y, m x = some y ∧ Rel h v y) ∨
  (env.kindOf x = some .cell ∧ ∃ c y, env.cells.lookup x = some c ∧ c ∈ ownCells env ∧ h.IsCell c (some y) ∧ Rel h v y)

noncomputable abbrev citObj (m : Addr) (t : Tok) (dead : Bool) : Obj := if dead then { cls := .type "callable_iterator", data := .fields #[.none, .none, .bool true] } else { cls := .type "callable_iterator", data := .fields #[.ref m, .str Str.empty t, .bool false] }
noncomputable abbrev methObj (fn self : Addr) : Obj := { cls := .type "method", data := .fields #[.ref fn, .ref self] }
noncomputable def AttrsAre (h : Heap) (at' : List (Str × V)) (mA : Str → Option Value) : Prop := ∀ x, match at'.lookup x with
  | some v => ∃ y, mA x = some y ∧ Rel h v y
  | .none => mA x = .none
theorem AttrsAre.keep {h h' : Heap} {at' : List (Str × V)} {mA : Str → Option Value} (z : AttrsAre h at' mA) (k : TupKeep h h') : AttrsAre h' at' mA := fun x => by
  have q := z x
  cases e : at'.lookup x with
  | none => rw [e] at q; exact q
  | some v => rw [e] at q; obtain ⟨y, hy, r⟩ := q; exact ⟨y, hy, r.keep k⟩
noncomputable def InstIs (h : Heap) (a C d : Addr) (at' : List (Str × V)) : Prop :=
  ∃ o mA, h.get? a = some o ∧ o.cls = .ref C ∧ (∀ c, o.data ≠ .cls c) ∧ o.dict = some d ∧ d ≠ a ∧ h.Ns1 d mA ∧ AttrsAre h at' mA
noncomputable def CellAt (T : TI) (h : Heap) (a : Addr) : Cell → Prop
  | .loc env ℓ => env.locals = a ∧ (∃ m, h.Ns a m ∧ ∀ x v, ℓ.lookup x = some v → VarAt h env m x v) ∧ ∀ c ∈ ownCells env, ∃ y, h.IsCell c y
  | .list vs => ∃ items n, IsL h a items n ∧ RelL h vs items.toList
  | .lit l i => h.IsListIter a l i
  | .rit x left step => IsRangeIter h a x left step
  | .tit vs => ∃ t items n i, h.IsTupleIter a t i ∧ IsT h t items n ∧ RelL h vs (items.toList.drop i)
  | .enl it l i => (∃ old, IsEnum h a it i old) ∧ h.IsListIter it l i
  | .tab => T.h₁.TableAt T.tc a #[] ∧ h.get? a = some (PySem.W.X.tableObj #[])
  | .tab1 c pos q => T.h₁.TableAt T.tc a #[] ∧ h.get? a = some (PySem.W.X.tableObj #[rawInt pos.line, rawInt pos.col, .ref c]) ∧ ∃ o vs t, h.get? c = some o ∧ o.data = .fields vs ∧ vs[1]? = some (.str q t)
  | .rng x y z => ∃ t u v, IsRange h a x y z t u v
  | .sit x i => ∃ t, h.IsStrIter a "str_ascii_iterator" x t i
  | .ens it x i => (∃ old, IsEnum h a it i old) ∧ ∃ t, h.IsStrIter it "str_ascii_iterator" x t i
  | .cit m fn self dead => (∃ t, h.get? a = some (citObj m t dead)) ∧ h.get? m = some (methObj fn self)
  | .inst C d at' => InstIs h a C d at'
  | .clo fd c v => (∃ o, h.get? a = some o ∧ o.cls = .type "function" ∧ o.data = .func fd) ∧ ∃ y, h.IsCell c (some y) ∧ Rel h v y
  | .fn fd => ∃ o, h.get? a = some o ∧ o.cls = .type "function" ∧ o.data = .func fd
  | .meth f self => h.get? a = some (methObj f self)

theorem IsListIter.keep' {h h' : Heap} {a l : Addr} {i : Nat} (x : h.IsListIter a l i) (k : ∀ o, h.get? a = some o → h'.get? a = some o) : h'.IsListIter a l i :=
  let ⟨o, ho, r⟩ := x; ⟨o, k o ho, r⟩
theorem IsCell.keep' {h h' : Heap} {a : Addr} {v} (x : h.IsCell a v) (k : ∀ o, h.get? a = some o → h'.get? a = some o) : h'.IsCell a v :=
  let ⟨o, ho, r⟩ := x; ⟨o, k o ho, r⟩
theorem IsTupleIter.keep' {h h' : Heap} {a t : Addr} {i} (x : h.IsTupleIter a t i) (k : ∀ o, h.get? a = some o → h'.get? a = some o) : h'.IsTupleIter a t i :=
  let ⟨o, ho, r⟩ := x; ⟨o, k o ho, r⟩
theorem Ns.keep' {h h' : Heap} {a : Addr} {m} (x : h.Ns a m) (k : ∀ o, h.get? a = some o → h'.get? a = some o) : h'.Ns a m :=
  let ⟨o, es, ep, ho, r⟩ := x; ⟨o, es, ep, k o ho, r⟩
theorem IsRangeIter.keep' {h h' : Heap} {a : Addr} {x l st : Int} (z : IsRangeIter h a x l st) (k : ∀ o, h.get? a = some o → h'.get? a = some o) : IsRangeIter h' a x l st := by
  unfold IsRangeIter at z ⊢
  first
    | exact k _ z
    | (obtain ⟨o, ho, r⟩ := z; exact ⟨o, k o ho, r⟩)

theorem CellAt.there {T : TI} {h : Heap} {a : Addr} {c : Cell} (x : CellAt T h a c) : ∀ b ∈ foot a c, ∃ o, h.get? b = some o := by
  intro b hb
  cases c with
  | loc env ℓ =>
    obtain ⟨_, ⟨m, hn, _⟩, hc⟩ := x
    rcases List.mem_cons.mp hb with rfl | hb
    · obtain ⟨o, _, _, ho, _⟩ := hn; exact ⟨o, ho⟩
    · obtain ⟨y, o, ho, _⟩ := hc b hb; exact ⟨o, ho⟩
  | list vs =>
    obtain ⟨it, n, ho, _⟩ := x
    cases List.mem_singleton.mp hb; exact ⟨_, ho⟩
  | lit l i =>
    obtain ⟨o, ho, _⟩ := x
    cases List.mem_singleton.mp hb; exact ⟨o, ho⟩
  | rit x' l st =>
    cases List.mem_singleton.mp hb
    unfold CellAt IsRangeIter at x
    first
      | exact ⟨_, x⟩
      | (obtain ⟨o, ho, _⟩ := x; exact ⟨o, ho⟩)
  | tit vs =>
    obtain ⟨t, it, n, i, ⟨o, ho, _⟩, _⟩ := x
    cases List.mem_singleton.mp hb; exact ⟨o, ho⟩
  | enl it l i =>
    obtain ⟨⟨old, he⟩, ⟨o, ho, _⟩⟩ := x
    simp only [foot, List.mem_cons, List.not_mem_nil, or_false] at hb
    rcases hb with rfl | rfl
    · exact ⟨_, he⟩
    · exact ⟨o, ho⟩
  | tab =>
    obtain ⟨_, ho⟩ := x
    cases List.mem_singleton.mp hb; exact ⟨_, ho⟩
  | tab1 c pos q =>
    obtain ⟨_, ho, o, vs, t, hc, _⟩ := x
    simp only [foot, List.mem_cons, List.not_mem_nil, or_false] at hb
    rcases hb with rfl | rfl
    · exact ⟨_, ho⟩
    · exact ⟨_, hc⟩
  | rng p q r =>
    obtain ⟨t, u, v, ho⟩ := x
    cases List.mem_singleton.mp hb; exact ⟨_, ho⟩
  | sit y i =>
    obtain ⟨t, o, ho, _⟩ := x
    cases List.mem_singleton.mp hb; exact ⟨_, ho⟩
  | ens it y i =>
    obtain ⟨⟨old, he⟩, t, o, ho, _⟩ := x
    simp only [foot, List.mem_cons, List.not_mem_nil, or_false] at hb
    rcases hb with rfl | rfl
    · exact ⟨_, he⟩
    · exact ⟨o, ho⟩
  | cit m fn self dead =>
    obtain ⟨⟨t, he⟩, ho⟩ := x
    simp only [foot, List.mem_cons, List.not_mem_nil, or_false] at hb
    rcases hb with rfl | rfl
    · exact ⟨_, he⟩
    · exact ⟨_, ho⟩
  | inst C d at' =>
    obtain ⟨o, mA, ho, _, _, _, _, ⟨od, _, _, hod, _⟩, _⟩ := x
    simp only [foot, List.mem_cons, List.not_mem_nil, or_false] at hb
    rcases hb with rfl | rfl
    · exact ⟨_, ho⟩
    · exact ⟨_, hod⟩
  | clo fd c v =>
    obtain ⟨⟨o, ho, _⟩, y, ⟨oc, hoc, _⟩, _⟩ := x
    simp only [foot, List.mem_cons, List.not_mem_nil, or_false] at hb
    rcases hb with rfl | rfl
    · exact ⟨_, ho⟩
    · exact ⟨_, hoc⟩
  | fn fd =>
    obtain ⟨o, ho, _⟩ := x
    cases List.mem_singleton.mp hb; exact ⟨_, ho⟩
  | meth f self => cases List.mem_singleton.mp hb; exact ⟨_, x⟩

theorem VarAt.keep {h h' : Heap} {env : Env} {m} {x : Str} {v : V} (z : VarAt h env m x v) (k : TupKeep h h') (kc : ∀ c ∈ ownCells env, ∀ o, h.get? c = some o → h'.get? c = some o) : VarAt h' env m x v := by
  rcases z with ⟨hk, y, hy, r⟩ | ⟨hk, c, y, hc, ho, hi, r⟩
  · exact .inl ⟨hk, y, hy, r.keep k⟩
  · exact .inr ⟨hk, c, y, hc, ho, IsCell.keep' hi (kc c ho), r.keep k⟩

theorem CellAt.keep {T : TI} {h h' : Heap} {a : Addr} {c : Cell} (x : CellAt T h a c) (k : TupKeep h h') (kf : ∀ b ∈ foot a c, ∀ o, h.get? b = some o → h'.get? b = some o) : CellAt T h' a c := by
  cases c with
  | loc env ℓ =>
    obtain ⟨e, ⟨m, hn, hv⟩, hc⟩ := x
    refine ⟨e, ⟨m, Ns.keep' hn (kf a (.head _)), fun y v hy => (hv y v hy).keep k fun c hc => kf c (.tail _ hc)⟩, fun c hc' => ?_⟩
    obtain ⟨y, hy⟩ := hc c hc'
    exact ⟨y, IsCell.keep' hy (kf c (.tail _ hc'))⟩
  | list vs =>
    obtain ⟨it, n, hl, r⟩ := x
    exact ⟨it, n, kf a (.head _) _ hl, r.keep k⟩
  | lit l i => exact IsListIter.keep' x (kf a (.head _))
  | rit x' l st => exact IsRangeIter.keep' x (kf a (.head _))
  | tit vs =>
    obtain ⟨t, it, n, i, hi, ht, r⟩ := x
    exact ⟨t, it, n, i, IsTupleIter.keep' hi (kf a (.head _)), k _ _ _ ht, r.keep k⟩
  | enl it l i =>
    obtain ⟨⟨old, he⟩, hi⟩ := x
    exact ⟨⟨old, kf a (.head _) _ he⟩, IsListIter.keep' hi (kf it (.tail _ (.head _)))⟩
  | tab =>
    obtain ⟨ht, ho⟩ := x
    exact ⟨ht, kf a (.head _) _ ho⟩
  | tab1 c pos q =>
    obtain ⟨ht, ho, o, vs, t, hc, r⟩ := x
    exact ⟨ht, kf a (.head _) _ ho, o, vs, t, kf c (.tail _ (.head _)) _ hc, r⟩
  | rng p q r =>
    obtain ⟨t, u, v, ho⟩ := x
    exact ⟨t, u, v, kf a (.head _) _ ho⟩
  | sit y i =>
    obtain ⟨t, o, ho, r⟩ := x
    exact ⟨t, o, kf a (.head _) _ ho, r⟩
  | ens it y i =>
    obtain ⟨⟨old, he⟩, t, o, ho, r⟩ := x
    exact ⟨⟨old, kf a (.head _) _ he⟩, t, o, kf it (.tail _ (.head _)) _ ho, r⟩
  | cit m fn self dead =>
    obtain ⟨⟨t, he⟩, ho⟩ := x
    exact ⟨⟨t, kf a (.head _) _ he⟩, kf m (.tail _ (.head _)) _ ho⟩
  | inst C d at' =>
    obtain ⟨o, mA, ho, hc, hn, hd, hne, hns, ha⟩ := x
    exact ⟨o, mA, kf a (.head _) _ ho, hc, hn, hd, hne, hns.at fun o e => kf d (.tail _ (.head _)) o e, ha.keep k⟩
  | clo fd c v =>
    obtain ⟨⟨o, ho, r⟩, y, hc, rv⟩ := x
    exact ⟨⟨o, kf a (.head _) _ ho, r⟩, y, IsCell.keep' hc (kf c (.tail _ (.head _))), rv.keep k⟩
  | fn fd =>
    obtain ⟨o, ho, r⟩ := x
    exact ⟨o, kf a (.head _) _ ho, r⟩
  | meth f self => exact kf a (.head _) _ x

theorem CellAt.ntup {T : TI} {h : Heap} {a : Addr} {c : Cell} (x : CellAt T h a c) : ∀ b ∈ foot a c, ∀ items n, ¬ IsT h b items n := by
  rintro b hb items n ho'
  unfold IsT at ho'
  cases c with
  | loc env ℓ =>
    obtain ⟨_, ⟨m, hn, _⟩, hc⟩ := x
    rcases List.mem_cons.mp hb with rfl | hb
    · obtain ⟨o, _, _, ho, hd, _⟩ := hn
      rw [ho] at ho'; cases ho'; cases hd
    · obtain ⟨y, o, ho, hd⟩ := hc b hb
      rw [ho] at ho'; cases ho'; cases hd
  | list vs =>
    obtain ⟨it, n, ho, _⟩ := x
    cases List.mem_singleton.mp hb
    have e : some _ = some _ := ho.symm.trans ho'
    have e' : (Value.type "list") = Value.type "tuple" := congrArg Obj.cls (Option.some.inj e)
    exact absurd e' (by decide)
  | lit l i =>
    obtain ⟨o, ho, _, hd⟩ := x
    cases List.mem_singleton.mp hb
    rw [ho] at ho'; cases ho'; cases hd
  | rit x' l st =>
    cases List.mem_singleton.mp hb
    have e : some _ = some _ := Eq.trans (Eq.symm (show IsRangeIter h a x' l st from x)) ho'
    have e' := congrArg Obj.data (Option.some.inj e)
    cases e'
  | tit vs =>
    obtain ⟨t, it, n, i, ⟨o, ho, _, hd⟩, _⟩ := x
    cases List.mem_singleton.mp hb
    rw [ho] at ho'; cases ho'; cases hd
  | enl it l i =>
    obtain ⟨⟨old, he⟩, ⟨o, ho, _, hd⟩⟩ := x
    simp only [foot, List.mem_cons, List.not_mem_nil, or_false] at hb
    rcases hb with rfl | rfl
    · have e : some _ = some _ := he.symm.trans ho'
      have e' := congrArg Obj.data (Option.some.inj e)
      cases e'
    · rw [ho] at ho'; cases ho'; cases hd
  | tab =>
    obtain ⟨_, ho⟩ := x
    cases List.mem_singleton.mp hb
    have e : some _ = some _ := ho.symm.trans ho'
    have e' := congrArg Obj.data (Option.some.inj e)
    cases e'
  | tab1 c pos q =>
    obtain ⟨_, ho, o, vs, t, hc, hd, _⟩ := x
    simp only [foot, List.mem_cons, List.not_mem_nil, or_false] at hb
    rcases hb with rfl | rfl
    · have e : some _ = some _ := ho.symm.trans ho'
      have e' := congrArg Obj.data (Option.some.inj e)
      cases e'
    · rw [hc] at ho'; cases ho'; cases hd
  | rng p q r =>
    obtain ⟨t, u, v, ho⟩ := x
    cases List.mem_singleton.mp hb
    have e : some _ = some _ := ho.symm.trans ho'
    have e' := congrArg Obj.data (Option.some.inj e)
    cases e'
  | sit y i =>
    obtain ⟨t, o, ho, _, hd⟩ := x
    cases List.mem_singleton.mp hb
    rw [ho] at ho'; cases ho'; cases hd
  | ens it y i =>
    obtain ⟨⟨old, he⟩, t, o, ho, _, hd⟩ := x
    simp only [foot, List.mem_cons, List.not_mem_nil, or_false] at hb
    rcases hb with rfl | rfl
    · have e : some _ = some _ := he.symm.trans ho'
      have e' := congrArg Obj.data (Option.some.inj e)
      cases e'
    · rw [ho] at ho'; cases ho'; cases hd
  | cit m fn self dead =>
    obtain ⟨⟨t, he⟩, ho⟩ := x
    simp only [foot, List.mem_cons, List.not_mem_nil, or_false] at hb
    rcases hb with rfl | rfl
    · have e : some _ = some _ := he.symm.trans ho'
      have e' := congrArg Obj.data (Option.some.inj e)
      cases dead <;> cases e'
    · have e : some _ = some _ := ho.symm.trans ho'
      have e' := congrArg Obj.data (Option.some.inj e)
      cases e'
  | inst C d at' =>
    obtain ⟨o, mA, ho, hc, _, _, _, ⟨od, _, _, hod, hdd, _⟩, _⟩ := x
    simp only [foot, List.mem_cons, List.not_mem_nil, or_false] at hb
    rcases hb with rfl | rfl
    · rw [ho] at ho'; cases ho'; cases hc
    · rw [hod] at ho'; cases ho'; cases hdd
  | clo fd c v =>
    obtain ⟨⟨o, ho, hc, hd⟩, y, ⟨oc, hoc, hdc⟩, _⟩ := x
    simp only [foot, List.mem_cons, List.not_mem_nil, or_false] at hb
    rcases hb with rfl | rfl
    · rw [ho] at ho'; cases ho'; cases hd
    · rw [hoc] at ho'; cases ho'; cases hdc
  | fn fd =>
    obtain ⟨o, ho, _, hd⟩ := x
    cases List.mem_singleton.mp hb
    rw [ho] at ho'; cases ho'; cases hd
  | meth f self =>
    cases List.mem_singleton.mp hb
    have e : some _ = some _ := Eq.trans (Eq.symm (show h.get? a = some (methObj f self) from x)) ho'
    have e' := congrArg Obj.data (Option.some.inj e)
    cases e'

/-- the state as the walk knows it -/
structure Ok (T : TI) (C : Cs) (s : Shared) : Prop where
  top : ∀ b o, T.h₁.get? b = some o → b ≠ T.tb → s.heap.get? b = some o
  cells : ∀ p ∈ C, CellAt T s.heap p.1 p.2
  nd : (foots C).Nodup
  new : ∀ b ∈ foots C, T.h₁.get? b = none ∨ b = T.tb
  gens : s.gens = #[]
  os : s.os = T.os

/-- what a step may have changed -/
structure Go (C : Cs) (h : Heap) (C' : Cs) (h' : Heap) : Prop where
  keep : ∀ b o, h.get? b = some o → b ∉ foots C → h'.get? b = some o
  foot : ∀ b ∈ foots C', b ∈ foots C ∨ h.get? b = none

theorem Go.refl (C : Cs) (h : Heap) : Go C h C h := ⟨fun _ _ e _ => e, fun _ hb => .inl hb⟩
theorem Go.trans {C C₁ C₂ : Cs} {h h₁ h₂ : Heap} (x : Go C h C₁ h₁) (y : Go C₁ h₁ C₂ h₂) : Go C h C₂ h₂ := by
  refine ⟨fun b o e hb => y.keep b o (x.keep b o e hb) fun hb' => ?_, fun b hb => ?_⟩
  · rcases x.foot b hb' with z | z
    · exact hb z
    · rw [e] at z; cases z
  · rcases y.foot b hb with z | z
    · exact x.foot b z
    · by_cases hb' : b ∈ foots C
      · exact .inl hb'
      · cases e : h.get? b with
        | none => exact .inr rfl
        | some o => rw [x.keep b o e hb'] at z; cases z
theorem Ok.there {T : TI} {C : Cs} {s : Shared} (k : Ok T C s) : ∀ b ∈ foots C, ∃ o, s.heap.get? b = some o := fun b hb => by
  obtain ⟨p, hp, hb⟩ := List.mem_flatMap.mp hb
  exact (k.cells p hp).there b hb
theorem Ok.ntup {T : TI} {C : Cs} {s : Shared} (k : Ok T C s) : ∀ b ∈ foots C, ∀ items n, ¬ IsT s.heap b items n := fun b hb => by
  obtain ⟨p, hp, hb⟩ := List.mem_flatMap.mp hb
  exact (k.cells p hp).ntup b hb
theorem Go.tup {T : TI} {C C' : Cs} {s : Shared} {h' : Heap} (k : Ok T C s) (g : Go C s.heap C' h') : TupKeep s.heap h' := fun a items n t => g.keep a _ t fun hb => k.ntup a hb items n t

theorem foots_append (C R : Cs) : foots (C ++ R) = foots C ++ foots R := List.flatMap_append
theorem foots_cons (p : Addr × Cell) (C : Cs) : foots (p :: C) = foot p.1 p.2 ++ foots C := rfl
theorem foots_perm {C C' : Cs} (p : C.Perm C') : (foots C).Perm (foots C') := p.flatMap_right _
theorem Ok.perm {T : TI} {C C' : Cs} {s : Shared} (k : Ok T C s) (p : C.Perm C') : Ok T C' s :=
  ⟨k.top, fun q hq => k.cells q (p.symm.subset hq), (foots_perm p).nodup k.nd, fun b hb => k.new b ((foots_perm p).symm.subset hb), k.gens, k.os⟩
theorem Go.permL {C C₀ C' : Cs} {h h' : Heap} (g : Go C h C' h') (p : C.Perm C₀) : Go C₀ h C' h' :=
  ⟨fun b o e hb => g.keep b o e fun z => hb ((foots_perm p).subset z), fun b hb => (g.foot b hb).imp (fun z => (foots_perm p).subset z) id⟩
theorem Go.permR {C C₀ C' : Cs} {h h' : Heap} (g : Go C h C' h') (p : C'.Perm C₀) : Go C h C₀ h' :=
  ⟨g.keep, fun b hb => g.foot b ((foots_perm p).symm.subset hb)⟩
theorem Ok.left {T : TI} {C R : Cs} {s : Shared} (k : Ok T (C ++ R) s) : Ok T C s :=
  ⟨k.top, fun q hq => k.cells q (List.mem_append_left _ hq), by have := k.nd; rw [foots_append] at this; exact (List.nodup_append.mp this).1,
    fun b hb => k.new b (by rw [foots_append]; exact List.mem_append_left _ hb), k.gens, k.os⟩
theorem Ok.right {T : TI} {C R : Cs} {s : Shared} (k : Ok T (C ++ R) s) : Ok T R s := (k.perm List.perm_append_comm).left
/-- the frame rule: what is not touched stays -/
theorem Ok.frame {T : TI} {C C' R : Cs} {s s' : Shared} (k : Ok T (C ++ R) s) (k' : Ok T C' s') (g : Go C s.heap C' s'.heap) : Ok T (C' ++ R) s' ∧ Go (C ++ R) s.heap (C' ++ R) s'.heap := by
  have tk : TupKeep s.heap s'.heap := g.tup k.left
  have nd := k.nd
  rw [foots_append] at nd
  have dj := (List.nodup_append.mp nd).2.2
  have kf : ∀ b ∈ foots R, ∀ o, s.heap.get? b = some o → s'.heap.get? b = some o := fun b hb o e => g.keep b o e fun z => dj b z b hb rfl
  refine ⟨⟨k'.top, fun p hp => ?_, ?_, fun b hb => ?_, k'.gens, k'.os⟩, ⟨fun b o e hb => g.keep b o e fun z => hb (by rw [foots_append]; exact List.mem_append_left _ z), fun b hb => ?_⟩⟩
  · rcases List.mem_append.mp hp with hp | hp
    · exact k'.cells p hp
    · exact (k.right.cells p hp).keep tk fun b hb o e => kf b (List.mem_flatMap.mpr ⟨p, hp, hb⟩) o e
  · rw [foots_append]
    refine List.nodup_append.mpr ⟨k'.nd, k.right.nd, fun b hb c hc e => ?_⟩
    subst e
    obtain ⟨o, ho⟩ := k.right.there b hc
    rcases g.foot b hb with z | z
    · exact dj b z b hc rfl
    · rw [ho] at z; cases z
  · rw [foots_append] at hb
    rcases List.mem_append.mp hb with hb | hb
    · exact k'.new b hb
    · exact k.right.new b hb
  · rw [foots_append] at hb ⊢
    rcases List.mem_append.mp hb with hb | hb
    · exact (g.foot b hb).imp (List.mem_append_left _) id
    · exact .inl (List.mem_append_right _ hb)

/-- a new state out of an old one -/
theorem Ok.mk' {T : TI} {C C' : Cs} {s s' : Shared} (k : Ok T C s) (g : Go C s.heap C' s'.heap) (cells : ∀ p ∈ C', CellAt T s'.heap p.1 p.2) (nd : (foots C').Nodup) (hg : s'.gens = s.gens) (ho : s'.os = s.os) : Ok T C' s' := by
  refine ⟨fun b o e hb => g.keep b o (k.top b o e hb) fun hf => ?_, cells, nd, fun b hb => ?_, hg.trans k.gens, ho.trans k.os⟩
  · rcases k.new b hf with z | z
    · rw [e] at z; cases z
    · exact hb z
  · rcases g.foot b hb with z | z
    · exact k.new b z
    · by_cases hb' : b = T.tb
      · exact .inr hb'
      · cases e : T.h₁.get? b with
        | none => exact .inl rfl
        | some o => rw [k.top b o e hb'] at z; cases z

/-- nothing but new objects -/
structure Grow (s s' : Shared) : Prop where
  keep : ∀ b o, s.heap.get? b = some o → s'.heap.get? b = some o
  gens : s'.gens = s.gens
  os : s'.os = s.os
theorem Grow.refl (s : Shared) : Grow s s := ⟨fun _ _ e => e, rfl, rfl⟩
theorem Grow.tok (s : Shared) (t : Nat) : Grow s { s with toks := t } := ⟨fun _ _ e => e, rfl, rfl⟩
theorem Grow.trans {s s' s'' : Shared} (x : Grow s s') (y : Grow s' s'') : Grow s s'' := ⟨fun b o e => y.keep b o (x.keep b o e), y.gens.trans x.gens, y.os.trans x.os⟩
theorem Grow.push (s : Shared) (o : Obj) (t : Nat) : Grow s { s with heap := s.heap.push o, toks := t } := ⟨fun _ _ e => Heap.get?_push_of_some _ e, rfl, rfl⟩
theorem Grow.tup {s s' : Shared} (x : Grow s s') : TupKeep s.heap s'.heap := fun _ _ _ t => x.keep _ _ t
theorem Ok.grow {T : TI} {C : Cs} {s s' : Shared} (k : Ok T C s) (x : Grow s s') : Ok T C s' ∧ Go C s.heap C s'.heap := by
  have g : Go C s.heap C s'.heap := ⟨fun b o e _ => x.keep b o e, fun b hb => .inl hb⟩
  exact ⟨k.mk' g (fun p hp => (k.cells p hp).keep x.tup fun b _ o e => x.keep b o e) k.nd x.gens x.os, g⟩
/-- a new object that is tracked from now on -/
theorem Ok.add {T : TI} {C : Cs} {s s' : Shared} (k : Ok T C s) (x : Grow s s') {a : Addr} {c : Cell} (ca : CellAt T s'.heap a c) (hn : ∀ b ∈ foot a c, s.heap.get? b = none) (nd : (foot a c).Nodup) :
    Ok T ((a, c) :: C) s' ∧ Go C s.heap ((a, c) :: C) s'.heap := by
  obtain ⟨k', _⟩ := k.grow x
  have g : Go C s.heap ((a, c) :: C) s'.heap := ⟨fun b o e _ => x.keep b o e, fun b hb => by
    rw [foots_cons] at hb
    rcases List.mem_append.mp hb with hb | hb
    · exact .inr (hn b hb)
    · exact .inl hb⟩
  refine ⟨k.mk' g (fun p hp => ?_) ?_ x.gens x.os, g⟩
  · rcases List.mem_cons.mp hp with rfl | hp
    · exact ca
    · exact k'.cells p hp
  · rw [foots_cons]
    refine List.nodup_append.mpr ⟨nd, k.nd, fun b hb c hc e => ?_⟩
    subst e
    obtain ⟨o, ho⟩ := k.there b hc
    rw [hn b hb] at ho; cases ho
theorem set_perm {α : Type} : ∀ {l : List α} {i : Nat} {x y : α}, l[i]? = some x → l.Perm ([x] ++ l.eraseIdx i) ∧ ([y] ++ l.eraseIdx i).Perm (l.set i y)
  | [], _, _, _, h => by cases h
  | z :: l, 0, x, y, h => by cases h; exact ⟨.refl _, .refl _⟩
  | z :: l, i + 1, x, y, h => by
    obtain ⟨p, q⟩ := set_perm (l := l) (i := i) (x := x) (y := y) (by simpa using h)
    exact ⟨(p.cons z).trans (.swap _ _ _), (List.Perm.swap _ _ _).trans (q.cons z)⟩
/-- one tracked thing turns -/
theorem Ok.upd {T : TI} {C : Cs} {s s' : Shared} {i : Nat} {a : Addr} {c c' : Cell} (k : Ok T C s) (hi : C[i]? = some (a, c))
    (kp : ∀ b o, s.heap.get? b = some o → b ∉ foot a c → s'.heap.get? b = some o) (ca : TupKeep s.heap s'.heap → CellAt T s'.heap a c') (hf : foot a c' = foot a c) (hg : s'.gens = s.gens) (ho : s'.os = s.os) :
    Ok T (C.set i (a, c')) s' ∧ Go C s.heap (C.set i (a, c')) s'.heap := by
  obtain ⟨p, q⟩ := set_perm (y := (a, c')) hi
  have k₁ : Ok T ([(a, c)] ++ C.eraseIdx i) s := k.perm p
  have fe : foots [(a, c)] = foot a c := by simp [foots]
  have fe' : foots [(a, c')] = foot a c := by simp [foots, hf]
  have g : Go [(a, c)] s.heap [(a, c')] s'.heap := ⟨fun b o e hb => kp b o e (by rw [fe] at hb; exact hb), fun b hb => .inl (by rw [fe'] at hb; rw [fe]; exact hb)⟩
  have tk := g.tup k₁.left
  have k₂ : Ok T [(a, c')] s' := k₁.left.mk' g (fun x hx => by cases List.mem_singleton.mp hx; exact ca tk) (by rw [fe']; have := k₁.left.nd; rw [fe] at this; exact this) hg ho
  obtain ⟨k₃, g₃⟩ := k₁.frame k₂ g
  exact ⟨k₃.perm q, (g₃.permL p.symm).permR q⟩
theorem foots_sub {C' C : Cs} (hs : C'.Sublist C) : (foots C').Sublist (foots C) := by
  induction hs with
  | slnil => exact .slnil
  | cons p _ ih => exact ih.trans (List.sublist_append_right _ _)
  | cons_cons p _ ih => exact (List.Sublist.refl _).append ih
theorem Ok.drop {T : TI} {C C' : Cs} {s : Shared} (k : Ok T C s) (hs : C'.Sublist C) : Ok T C' s ∧ Go C s.heap C' s.heap := by
  have hf : (foots C').Sublist (foots C) := foots_sub hs
  exact ⟨⟨k.top, fun p hp => k.cells p (hs.subset hp), hf.nodup k.nd, fun b hb => k.new b (hf.subset hb), k.gens, k.os⟩, ⟨fun _ _ e _ => e, fun b hb => .inl (hf.subset hb)⟩⟩
theorem get?_end (h : Heap) : h.get? h.objs.size = none := by
  cases e : h.get? h.objs.size with
  | none => rfl
  | some o => exact absurd (Heap.lt_size e) (Nat.lt_irrefl _)
end Mine
end
section
open PySem PySem.Spec PySem.Calls PyProof.Rows PySem.P
namespace Mine
noncomputable abbrev Lo := List (Str × V)
noncomputable abbrev lc (env : Env) (ℓ : Lo) : Addr × Cell := (env.locals, .loc env ℓ)
noncomputable abbrev Mo (T : TI) : Model := model T.prog T.w
noncomputable def NoE : Value → Shared → Prop := fun _ _ => False

noncomputable def PostG {α β : Type} (T : TI) (C : Cs) (h : Heap) (R : Heap → β → α → Prop) (K : β → Cs → Prop) (x : α) (s' : Shared) : Prop :=
  ∃ v C', K v C' ∧ R s'.heap v x ∧ Ok T C' s' ∧ Go C h C' s'.heap
theorem PostG.inE {α β : Type} {T : TI} {C : Cs} {h : Heap} {R : Heap → β → α → Prop} {env : Env} {ℓ : Lo} {K : β → Cs → Prop} {x : α} {s : Shared} {P : Prop} (p : PostG T C h R (fun v C' => ∃ H', C' = lc env ℓ :: H' ∧ K v H') x s)
    (f : ∀ v H', K v H' → R s.heap v x → Ok T (lc env ℓ :: H') s → Go C h (lc env ℓ :: H') s.heap → P) : P := by
  obtain ⟨v, _, ⟨H', rfl, hK⟩, r, k, g⟩ := p
  exact f v H' hK r k g
theorem PostG.stE {α β : Type} {T : TI} {C : Cs} {h : Heap} {R : Heap → β → α → Prop} {env : Env} {K : β → Lo → Cs → Prop} {x : α} {s : Shared} {P : Prop} (p : PostG T C h R (fun f C' => ∃ ℓ' H', C' = lc env ℓ' :: H' ∧ K f ℓ' H') x s)
    (f : ∀ v ℓ' H', K v ℓ' H' → R s.heap v x → Ok T (lc env ℓ' :: H') s → Go C h (lc env ℓ' :: H') s.heap → P) : P := by
  obtain ⟨v, _, ⟨ℓ', H', rfl, hK⟩, r, k, g⟩ := p
  exact f v ℓ' H' hK r k g
theorem PostG.inI {α β : Type} {T : TI} {C : Cs} {h : Heap} {R : Heap → β → α → Prop} {env : Env} {ℓ : Lo} {K : β → Cs → Prop} {x : α} {s : Shared} {v : β} {H' : Cs} (hK : K v H') (r : R s.heap v x) (k : Ok T (lc env ℓ :: H') s) (g : Go C h (lc env ℓ :: H') s.heap) :
    PostG T C h R (fun v C' => ∃ H', C' = lc env ℓ :: H' ∧ K v H') x s := ⟨v, _, ⟨H', rfl, hK⟩, r, k, g⟩
theorem PostG.stI {α β : Type} {T : TI} {C : Cs} {h : Heap} {R : Heap → β → α → Prop} {env : Env} {K : β → Lo → Cs → Prop} {x : α} {s : Shared} {v : β} {ℓ' : Lo} {H' : Cs} (hK : K v ℓ' H') (r : R s.heap v x) (k : Ok T (lc env ℓ' :: H') s) (g : Go C h (lc env ℓ' :: H') s.heap) :
    PostG T C h R (fun f C' => ∃ ℓ' H', C' = lc env ℓ' :: H' ∧ K f ℓ' H') x s := ⟨v, _, ⟨ℓ', H', rfl, hK⟩, r, k, g⟩
noncomputable def W {α β : Type} (T : TI) (A : Around) (C : Cs) (R : Heap → β → α → Prop) (t : Sem α) (K : β → Cs → Prop) : Prop :=
  ∀ s, Ok T C s → wpAny (Mo T) A t (PostG T C s.heap R K) NoE s
section
variable {α β γ δ : Type} {T : TI} {A : Around} {C C₁ : Cs} {R : Heap → β → α → Prop} {R' : Heap → δ → γ → Prop}
theorem PostG.trans {h h₁ : Heap} {K : β → Cs → Prop} {x : α} {s' : Shared} (g : Go C h C₁ h₁) (p : PostG T C₁ h₁ R K x s') : PostG T C h R K x s' := by
  obtain ⟨v, C', hK, r, k, g'⟩ := p
  exact ⟨v, C', hK, r, k, g.trans g'⟩
theorem wp_trans {t : Sem γ} {K : δ → Cs → Prop} {h : Heap} {s : Shared} (g : Go C h C₁ s.heap) (w : wpAny (Mo T) A t (PostG T C₁ s.heap R' K) NoE s) : wpAny (Mo T) A t (PostG T C h R' K) NoE s :=
  wpAny_mono w (fun _ _ p => p.trans g) fun _ _ e => e
end

inductive Fl where
  | next | brk | cont
  | ret (v : V)
noncomputable def RelF (h : Heap) : Fl → Flow → Prop
  | .next, f => f = .next
  | .brk, f => f = .brk
  | .cont, f => f = .cont
  | .ret v, f => ∃ x, f = .ret x ∧ Rel h v x
noncomputable def RelB (_ : Heap) (b : Bool) (x : Bool) : Prop := x = b

structure Ev (T : TI) (A : Around) (env : Env) (ℓ : Lo) (H : Cs) (e : Expr) (K : V → Cs → Prop) : Prop where
  run : W T A (lc env ℓ :: H) Rel (eval e env) (fun v C' => ∃ H', C' = lc env ℓ :: H' ∧ K v H')
structure Evs (T : TI) (A : Around) (env : Env) (ℓ : Lo) (H : Cs) (pos : Pos) (es : List Expr) (K : List V → Cs → Prop) : Prop where
  run : W T A (lc env ℓ :: H) RelL (spliced (backTo pos (starEach es env))) (fun v C' => ∃ H', C' = lc env ℓ :: H' ∧ K v H')
structure Tr (T : TI) (A : Around) (env : Env) (ℓ : Lo) (H : Cs) (e : Expr) (K : Bool → Cs → Prop) : Prop where
  run : W T A (lc env ℓ :: H) RelB (isTrue e env (eval e env)) (fun v C' => ∃ H', C' = lc env ℓ :: H' ∧ K v H')
structure Ex (T : TI) (A : Around) (env : Env) (ℓ : Lo) (H : Cs) (st : Stmt) (K : Fl → Lo → Cs → Prop) : Prop where
  run : W T A (lc env ℓ :: H) RelF (exec st env) (fun f C' => ∃ ℓ' H', C' = lc env ℓ' :: H' ∧ K f ℓ' H')
structure Exs (T : TI) (A : Around) (env : Env) (ℓ : Lo) (H : Cs) (sts : List Stmt) (K : Fl → Lo → Cs → Prop) : Prop where
  run : W T A (lc env ℓ :: H) RelF (execs sts env) (fun f C' => ∃ ℓ' H', C' = lc env ℓ' :: H' ∧ K f ℓ' H')

section
variable {T : TI} {A : Around} {env : Env} {ℓ : Lo} {H : Cs}

theorem ret_grow {K : V → Cs → Prop} {v : V} {x : Value} {s s' : Shared} (h : K v H) (k : Ok T (lc env ℓ :: H) s) (g : Grow s s') (r : Rel s'.heap v x) :
    PostG T (lc env ℓ :: H) s.heap Rel (fun v C' => ∃ H', C' = lc env ℓ :: H' ∧ K v H') x s' :=
  (PostG.inI (v := v) h r ((k.grow g).1) ((k.grow g).2))
theorem ret_growC {C : Cs} {K : V → Cs → Prop} {v : V} {x : Value} {s s' : Shared} (h : K v C) (k : Ok T C s) (g : Grow s s') (r : Rel s'.heap v x) : PostG T C s.heap Rel K x s' :=
  ⟨v, _, h, r, (k.grow g).1, (k.grow g).2⟩

theorem Ev_int {i : Int} {kd : Nat} {pos : Pos} {K} (h : K (.int i) H) : Ev T A env ℓ H (.Constant (.int i) kd pos) K := ⟨fun s k =>
  wpAny_Constant_int (ret_grow h k (Grow.tok s _) ⟨_, rfl⟩)⟩
theorem Ev_str {x : Str} {kd : Nat} {pos : Pos} {K} (h : K (.str x) H) : Ev T A env ℓ H (.Constant (.str x) kd pos) K := ⟨fun s k =>
  wpAny_Constant_str (ret_grow h k (Grow.tok s _) ⟨_, rfl⟩)⟩
theorem Ev_none {kd : Nat} {pos : Pos} {K} (h : K .none H) : Ev T A env ℓ H (.Constant .none kd pos) K := ⟨fun s k =>
  wpAny_Constant_none (ret_grow h k (Grow.refl s) rfl)⟩
theorem loc_of {s : Shared} (k : Ok T (lc env ℓ :: H) s) : CellAt T s.heap env.locals (.loc env ℓ) := k.cells _ (.head _)
/-- a name of the frame -/
theorem Ev_name {x : Str} {pos : Pos} {v : V} {K} (hl : ℓ.lookup x = some v) (h : K v H) (hk : env.scope.kind = .function := by rfl) (hd : (x == ("__debug__" : Str)) = false := by decide +kernel) :
    Ev T A env ℓ H (.Name x pos) K := by
  refine ⟨fun s k => ?_⟩
  obtain ⟨_, ⟨m, hn, hv⟩, _⟩ := loc_of k
  rcases hv x v hl with ⟨hk', y, hy, r⟩ | ⟨hk', c, y, hc, _, hi, r⟩
  · exact wpAny_Name (wpAny_loadName_local hk hk' hn hy (ret_grow h k (Grow.refl s) r)) hd
  · exact wpAny_Name (wpAny_loadName_cell hk hk' hc hi (ret_grow h k (Grow.refl s) r)) hd

noncomputable def GlobIs (T : TI) (x : Str) (y : Value) : Prop := ∃ m, T.h₁.Ns mainGlobals m ∧ m x = some y
noncomputable def BuiltIs (T : TI) (x : Str) (y : Value) : Prop := ∃ m mb, T.h₁.Ns mainGlobals m ∧ m x = none ∧ T.h₁.Ns builtinsNs mb ∧ mb x = some y
theorem Ns.top {s : Shared} {C : Cs} (k : Ok T C s) {a : Addr} {m} (hn : T.h₁.Ns a m) (ht : a ≠ T.tb) : s.heap.Ns a m := Ns.keep' hn fun o e => k.top _ o e ht
/-- a def or a class of the text -/
theorem Ev_glob {x : Str} {pos : Pos} {a : Addr} {K} (hg : GlobIs T x (.ref a)) (ht : mainGlobals ≠ T.tb) (h : K (.ref a) H) (hx : env.kindOf x = some .globalImplicit := by kernel_rfl) (hk : env.scope.kind = .function := by rfl)
    (he : env.globals = mainGlobals := by rfl) (hd : (x == ("__debug__" : Str)) = false := by decide +kernel) : Ev T A env ℓ H (.Name x pos) K := by
  refine ⟨fun s k => ?_⟩
  obtain ⟨m, hn, hm⟩ := hg
  exact Name_function_global hk hx (loadGlobal_global (he ▸ Ns.top k hn ht) hm (ret_grow h k (Grow.refl s) rfl)) hd
theorem Ev_builtin {x : Str} {pos : Pos} {v : V} {y : Value} {K} (hg : BuiltIs T x y) (ht : mainGlobals ≠ T.tb) (ht' : builtinsNs ≠ T.tb) (hr : ∀ h, Rel h v y) (h : K v H) (hx : env.kindOf x = some .globalImplicit := by kernel_rfl) (hk : env.scope.kind = .function := by rfl)
    (he : env.globals = mainGlobals := by rfl) (hb : env.builtins = builtinsNs := by rfl) (hd : (x == ("__debug__" : Str)) = false := by decide +kernel) : Ev T A env ℓ H (.Name x pos) K := by
  refine ⟨fun s k => ?_⟩
  obtain ⟨m, mb, hn, hm, hnb, hmb⟩ := hg
  exact Name_function_global hk hx (loadGlobal_builtin (he ▸ Ns.top k hn ht) hm (hb ▸ Ns.top k hnb ht') hmb (ret_grow h k (Grow.refl s) (hr _))) hd

/-- an operation upon two values -/
structure OpB (T : TI) (A : Around) (C : Cs) (op : Operator) (v w : V) (K : V → Cs → Prop) : Prop where
  run : ∀ s x y, Ok T C s → Rel s.heap v x → Rel s.heap w y → wpAny (Mo T) A (binaryOp op x y) (PostG T C s.heap Rel K) NoE s
structure OpC (T : TI) (A : Around) (C : Cs) (op : CmpOp) (v w : V) (K : V → Cs → Prop) : Prop where
  run : ∀ s x y, Ok T C s → Rel s.heap v x → Rel s.heap w y → wpAny (Mo T) A (compareOp op x y) (PostG T C s.heap Rel K) NoE s
structure OpI (T : TI) (A : Around) (C : Cs) (op : Operator) (v w : V) (K : V → Cs → Prop) : Prop where
  run : ∀ s x y, Ok T C s → Rel s.heap v x → Rel s.heap w y → wpAny (Mo T) A (inplaceOp op x y) (PostG T C s.heap Rel K) NoE s
structure OpS (T : TI) (A : Around) (C : Cs) (value slice : Expr) (v w : V) (K : V → Cs → Prop) : Prop where
  run : ∀ s x y, Ok T C s → Rel s.heap v x → Rel s.heap w y → wpAny (Mo T) A (subscriptTail value slice x y) (PostG T C s.heap Rel K) NoE s
structure OpT (T : TI) (A : Around) (C : Cs) (v : V) (K : Bool → Cs → Prop) : Prop where
  run : ∀ s x, Ok T C s → Rel s.heap v x → wpAny (Mo T) A (truthy x) (PostG T C s.heap RelB K) NoE s
noncomputable abbrev inH (env : Env) (ℓ : Lo) {β : Type} (K : β → Cs → Prop) : β → Cs → Prop := fun v C' => ∃ H', C' = lc env ℓ :: H' ∧ K v H'

theorem inI {β : Type} {K : β → Cs → Prop} {v : β} {H : Cs} (h : K v H) : inH env ℓ K v (lc env ℓ :: H) := ⟨H, rfl, h⟩
theorem Ev_binop {l r : Expr} {op : Operator} {pos : Pos} {K}
    (h : Ev T A env ℓ H l fun v H₁ => Ev T A env ℓ H₁ r fun w H₂ => OpB T A (lc env ℓ :: H₂) op v w (inH env ℓ K)) : Ev T A env ℓ H (.BinOp l op r pos) K := by
  refine ⟨fun s k => ?_⟩
  refine wpAny_BinOp (wpAny_mono (h.run s k) ?_ fun _ _ e => e)
  refine fun x s₁ p₀ => p₀.inE fun v H₁ hK r₁ k₁ g₁ => ?_
  refine wpAny_mono (hK.run s₁ k₁) ?_ fun _ _ e => e
  refine fun y s₂ p₀ => p₀.inE fun w H₂ hK₂ r₂ k₂ g₂ => ?_
  exact wp_trans (g₁.trans g₂) (hK₂.run s₂ x y k₂ (r₁.keep (g₂.tup k₁)) r₂)
theorem Ev_compare {l r : Expr} {op : CmpOp} {pos : Pos} {K}
    (h : Ev T A env ℓ H l fun v H₁ => Ev T A env ℓ H₁ r fun w H₂ => OpC T A (lc env ℓ :: H₂) op v w (inH env ℓ K)) (hm : behindInMarks op r = false := by kernel_rfl) : Ev T A env ℓ H (.Compare l [op] [r] pos) K := by
  refine ⟨fun s k => ?_⟩
  refine wpAny_Compare1 (wpAny_mono (h.run s k) ?_ fun _ _ e => e) hm
  refine fun x s₁ p₀ => p₀.inE fun v H₁ hK r₁ k₁ g₁ => ?_
  refine wpAny_mono (hK.run s₁ k₁) ?_ fun _ _ e => e
  refine fun y s₂ p₀ => p₀.inE fun w H₂ hK₂ r₂ k₂ g₂ => ?_
  exact wp_trans (g₁.trans g₂) (hK₂.run s₂ x y k₂ (r₁.keep (g₂.tup k₁)) r₂)
theorem Tr_compare {l r : Expr} {op : CmpOp} {pos : Pos} {K}
    (h : Ev T A env ℓ H l fun v H₁ => Ev T A env ℓ H₁ r fun w H₂ => OpC T A (lc env ℓ :: H₂) op v w (fun z C' => ∃ H', C' = lc env ℓ :: H' ∧ ∃ b, z = .bool b ∧ K b H')) (hm : behindInMarks op r = false := by kernel_rfl) :
    Tr T A env ℓ H (.Compare l [op] [r] pos) K := by
  refine ⟨fun s k => ?_⟩
  refine wpAny_isTrue_Compare1 (wpAny_mono (h.run s k) ?_ fun _ _ e => e) hm
  refine fun x s₁ p₀ => p₀.inE fun v H₁ hK r₁ k₁ g₁ => ?_
  refine wpAny_mono (hK.run s₁ k₁) ?_ fun _ _ e => e
  refine fun y s₂ p₀ => p₀.inE fun w H₂ hK₂ r₂ k₂ g₂ => ?_
  refine wpAny_mono (hK₂.run s₂ x y k₂ (r₁.keep (g₂.tup k₁)) r₂) ?_ fun _ _ e => e
  refine fun z s₃ p₀ => p₀.inE fun v₀ H₃ hh₀ r₃ k₃ g₃ => ?_
  obtain ⟨b, rfl, hK₃⟩ := hh₀
  cases r₃
  exact wpAny_truthy_bool (PostG.inI (v := b) hK₃ rfl k₃ ((g₁.trans g₂).trans g₃))
theorem Tr_not {x : Expr} {pos : Pos} {K} (h : Tr T A env ℓ H x fun b H' => K (!b) H') : Tr T A env ℓ H (.UnaryOp .Not x pos) K := ⟨fun s k =>
  wpAny_isTrue_Not (wpAny_mono (h.run s k) (by
    refine fun b s₁ p₀ => p₀.inE fun b' H₁ hK rr₀ k₁ g₁ => ?_
    obtain rfl := rr₀
    exact PostG.inI (v := !b) hK rfl k₁ g₁) fun _ _ e => e)⟩
/-- a test that is any other expression -/
theorem Tr_value {e : Expr} {K} (h : Ev T A env ℓ H e fun v H₁ => OpT T A (lc env ℓ :: H₁) v (inH env ℓ K)) (he : isTrue e env (eval e env) = (do let v ← eval e env; standAt e.pos; holding [v] (truthy v)) := by rfl) : Tr T A env ℓ H e K := by
  refine ⟨fun s k => ?_⟩
  refine wpAny_isTrue_value (wpAny_mono (h.run s k) ?_ fun _ _ e => e) he
  refine fun x s₁ p₀ => p₀.inE fun v H₁ hK r₁ k₁ g₁ => ?_
  exact wp_trans g₁ (hK.run s₁ x k₁ r₁)
theorem Tr_and {x y : Expr} {pos : Pos} {K} (h : Tr T A env ℓ H x fun b H₁ => if b then Tr T A env ℓ H₁ y K else K false H₁) : Tr T A env ℓ H (.BoolOp .And [x, y] pos) K := by
  refine ⟨fun s k => ?_⟩
  refine wpAny_isTrue_BoolOp (wpAny_allTrue_And_cons (wpAny_mono (h.run s k) ?_ fun _ _ e => e))
  refine fun b s₁ p₀ => p₀.inE fun b' H₁ hK rr₀ k₁ g₁ => ?_
  obtain rfl := rr₀
  cases b with
  | false => exact PostG.inI (v := false) hK rfl k₁ g₁
  | true =>
    refine wpAny_allTrue_And_cons (wpAny_mono (hK.run s₁ k₁) ?_ fun _ _ e => e)
    refine fun b s₂ p₀ => p₀.inE fun b' H₂ hK₂ rr₀ k₂ g₂ => ?_
    obtain rfl := rr₀
    cases b with
    | false => exact PostG.inI (v := false) hK₂ rfl k₂ (g₁.trans g₂)
    | true => exact wpAny_allTrue_And_nil (PostG.inI (v := true) hK₂ rfl k₂ (g₁.trans g₂))
theorem Ev_ifexp {t a b : Expr} {pos : Pos} {K} (h : Tr T A env ℓ H t fun c H₁ => if c then Ev T A env ℓ H₁ a K else Ev T A env ℓ H₁ b K) : Ev T A env ℓ H (.IfExp t a b pos) K := by
  refine ⟨fun s k => ?_⟩
  refine wpAny_IfExp (wpAny_mono (h.run s k) ?_ fun _ _ e => e)
  refine fun c s₁ p₀ => p₀.inE fun b' H₁ hK rr₀ k₁ g₁ => ?_
  obtain rfl := rr₀
  cases c with
  | true => exact wp_trans g₁ (hK.run s₁ k₁)
  | false => exact wp_trans g₁ (hK.run s₁ k₁)
theorem Ev_and {x y : Expr} {pos : Pos} {K} (h : Ev T A env ℓ H x fun v H₁ => OpT T A (lc env ℓ :: H₁) v (inH env ℓ fun b H₂ => if b then Ev T A env ℓ H₂ y K else K v H₂)) : Ev T A env ℓ H (.BoolOp .And [x, y] pos) K := by
  refine ⟨fun s k => ?_⟩
  refine wpAny_And2 (wpAny_mono (h.run s k) ?_ fun _ _ e => e)
  refine fun z s₁ p₀ => p₀.inE fun v H₁ hK r₁ k₁ g₁ => ?_
  refine wpAny_mono (hK.run s₁ z k₁ r₁) ?_ fun _ _ e => e
  refine fun b s₂ p₀ => p₀.inE fun b' H₂ hK₂ rr₀ k₂ g₂ => ?_
  obtain rfl := rr₀
  cases b with
  | true => exact wp_trans (g₁.trans g₂) (hK₂.run s₂ k₂)
  | false => exact PostG.inI (v := v) hK₂ (r₁.keep (g₂.tup k₁)) k₂ (g₁.trans g₂)

theorem Evs_nil {pos : Pos} {K} (h : K [] H) : Evs T A env ℓ H pos [] K := ⟨fun s k => wpAny_items_nil (PostG.inI (v := []) h rfl k (Go.refl _ _))⟩
theorem Evs_cons {pos : Pos} {e : Expr} {es : List Expr} {K} (h : Ev T A env ℓ H e fun v H₁ => Evs T A env ℓ H₁ pos es fun vs H₂ => K (v :: vs) H₂)
    (he : starEach (e :: es) env = (false, eval e env) :: starEach es env := by rfl) : Evs T A env ℓ H pos (e :: es) K := by
  refine ⟨fun s k => ?_⟩
  refine wpAny_items_cons (wpAny_mono (h.run s k) ?_ fun _ _ e => e) he
  refine fun x s₁ p₀ => p₀.inE fun v H₁ hK r₁ k₁ g₁ => ?_
  refine wpAny_mono (hK.run s₁ k₁) ?_ fun _ _ e => e
  refine fun xs s₂ p₀ => p₀.inE fun vs H₂ hK₂ r₂ k₂ g₂ => ?_
  exact PostG.inI (v := v :: vs) hK₂ ⟨x, xs, rfl, r₁.keep (g₂.tup k₁), r₂⟩ k₂ (g₁.trans g₂)
end
theorem RelL.length {h : Heap} : ∀ {vs : List V} {xs : List Value}, RelL h vs xs → xs.length = vs.length
  | [], _, r => by simp only [RelL] at r; subst r; rfl
  | _ :: vs, _, r => by
    simp only [RelL] at r
    obtain ⟨x, ys, rfl, _, b⟩ := r
    simp [b.length]
section
variable {T : TI} {A : Around} {env : Env} {ℓ : Lo} {H : Cs}
theorem Ev_tuple {es : List Expr} {kd : Nat} {pos : Pos} {K} (h : Evs T A env ℓ H pos es fun vs H₁ => vs.length ≤ 1000 ∧ K (.tup vs) H₁) : Ev T A env ℓ H (.Tuple es kd pos) K := by
  refine ⟨fun s k => ?_⟩
  refine wpAny_Tuple (wpAny_mono (h.run s k) ?_ fun _ _ e => e)
  refine fun xs s₁ p₀ => p₀.inE fun vs H₁ hh₀ r₁ k₁ g₁ => ?_
  obtain ⟨hn, hK⟩ := hh₀
  have gr := Grow.push s₁ { cls := .type "tuple", data := .seq xs.toArray } s₁.toks
  refine ⟨by rw [r₁.length]; exact Nat.le_trans hn (by decide), .tup vs, _, ⟨H₁, rfl, hK⟩, ?_, (k₁.grow gr).1, g₁.trans (k₁.grow gr).2⟩
  exact ⟨_, xs.toArray, 0, rfl, IsT.new _ _, by simpa using r₁.keep gr.tup⟩
theorem Ev_list {es : List Expr} {pos : Pos} {K} (h : Evs T A env ℓ H pos es fun vs H₁ => vs.length ≤ 1000 ∧ ∀ a, K (.ref a) ((a, .list vs) :: H₁)) : Ev T A env ℓ H (.List es pos) K := by
  refine ⟨fun s k => ?_⟩
  refine wpAny_List (wpAny_mono (h.run s k) ?_ fun _ _ e => e)
  refine fun xs s₁ p₀ => p₀.inE fun vs H₁ hh₀ r₁ k₁ g₁ => ?_
  obtain ⟨hn, hK⟩ := hh₀
  have gr := Grow.push s₁ { cls := .type "list", data := .seq xs.toArray } s₁.toks
  obtain ⟨k₂, g₂⟩ := k₁.add gr (a := s₁.heap.objs.size) (c := .list vs) ⟨xs.toArray, 0, IsL.new _ _, by simpa using r₁.keep gr.tup⟩ (fun b hb => by cases List.mem_singleton.mp hb; exact get?_end _) (by simp [foot])
  have p : ((s₁.heap.objs.size, Cell.list vs) :: lc env ℓ :: H₁).Perm (lc env ℓ :: (s₁.heap.objs.size, Cell.list vs) :: H₁) := .swap _ _ _
  exact ⟨by rw [r₁.length]; exact Nat.le_trans hn (by decide), .ref s₁.heap.objs.size, _, ⟨_, rfl, hK _⟩, rfl, k₂.perm p, (g₁.trans g₂).permR p⟩

/-- statements -/
theorem Exs_nil {K} (h : K .next ℓ H) : Exs T A env ℓ H [] K := ⟨fun s k => wpAny_execs_nil (PostG.stI (v := .next) h rfl k (Go.refl _ _))⟩
noncomputable def seqK (T : TI) (A : Around) (env : Env) (rest : List Stmt) (K : Fl → Lo → Cs → Prop) : Fl → Lo → Cs → Prop
  | .next, ℓ, H => Exs T A env ℓ H rest K
  | .brk, ℓ, H => K .brk ℓ H
  | .cont, ℓ, H => K .cont ℓ H
  | .ret v, ℓ, H => K (.ret v) ℓ H
theorem Exs_cons {st : Stmt} {rest : List Stmt} {K} (h : Ex T A env ℓ H st (seqK T A env rest K)) : Exs T A env ℓ H (st :: rest) K := by
  refine ⟨fun s k => ?_⟩
  refine wpAny_execs_cons (wpAny_mono (h.run s k) ?_ fun _ _ e => e)
  refine fun f s₁ p₀ => p₀.stE fun fl ℓ₁ H₁ hK r₁ k₁ g₁ => ?_
  cases fl with
  | next => cases r₁; exact wp_trans g₁ (hK.run s₁ k₁)
  | brk => cases r₁; exact PostG.stI (v := .brk) hK rfl k₁ g₁
  | cont => cases r₁; exact PostG.stI (v := .cont) hK rfl k₁ g₁
  | ret v => obtain ⟨x, rfl, r⟩ := r₁; exact ⟨.ret v, _, ⟨ℓ₁, H₁, rfl, hK⟩, ⟨x, rfl, r⟩, k₁, g₁⟩
theorem Ex_if {t : Expr} {a b : List Stmt} {pos : Pos} {K} (h : Tr T A env ℓ H t fun c H₁ => if c then Exs T A env ℓ H₁ a K else Exs T A env ℓ H₁ b K) : Ex T A env ℓ H (.If t a b pos) K := by
  refine ⟨fun s k => ?_⟩
  refine wpAny_If (wpAny_mono (h.run s k) ?_ fun _ _ e => e)
  refine fun c s₁ p₀ => p₀.inE fun b' H₁ hK rr₀ k₁ g₁ => ?_
  obtain rfl := rr₀
  cases c with
  | true => exact wp_trans g₁ (hK.run s₁ k₁)
  | false => exact wp_trans g₁ (hK.run s₁ k₁)
theorem Ex_return {e : Expr} {pos : Pos} {K} (h : Ev T A env ℓ H e fun v H₁ => K (.ret v) ℓ H₁) : Ex T A env ℓ H (.Return (some e) pos) K := by
  refine ⟨fun s k => ?_⟩
  refine wpAny_Return_some (wpAny_mono (h.run s k) ?_ fun _ _ e => e)
  refine fun x s₁ p₀ => p₀.inE fun v H₁ hK r₁ k₁ g₁ => ?_
  exact PostG.stI (v := .ret v) hK ⟨x, rfl, r₁⟩ k₁ g₁
theorem Ex_break {pos : Pos} {K} (h : K .brk ℓ H) : Ex T A env ℓ H (.Break pos) K := ⟨fun s k => wpAny_Break (PostG.stI (v := .brk) h rfl k (Go.refl _ _))⟩
theorem Ex_continue {pos : Pos} {K} (h : K .cont ℓ H) : Ex T A env ℓ H (.Continue pos) K := ⟨fun s k => wpAny_Continue (PostG.stI (v := .cont) h rfl k (Go.refl _ _))⟩
/-- a name bound anew -/
inductive Upd (x : Str) (v : V) : Lo → Lo → Prop
  | nil : Upd x v [] [(x, v)]
  | hit {w : V} {ℓ : Lo} : Upd x v ((x, w) :: ℓ) ((x, v) :: ℓ)
  | miss {y : Str} {w : V} {ℓ ℓ' : Lo} (hne : (x == y) = false) (u : Upd x v ℓ ℓ') : Upd x v ((y, w) :: ℓ) ((y, w) :: ℓ')
theorem Upd.look {x : Str} {v : V} {ℓ ℓ' : Lo} (u : Upd x v ℓ ℓ') (y : Str) : ℓ'.lookup y = if y = x then some v else ℓ.lookup y := by
  induction u with
  | nil =>
    by_cases h : y = x
    · subst h; simp
    · have hb : (y == x) = false := beq_eq_false_iff_ne.mpr h
      simp [List.lookup_cons, hb, h]
  | hit =>
    by_cases h : y = x
    · subst h; simp
    · have hb : (y == x) = false := beq_eq_false_iff_ne.mpr h
      simp [List.lookup_cons, hb, h]
  | miss hne _ ih =>
    rename_i z w ℓ ℓ' _
    by_cases h : y = z
    · subst h
      have : y ≠ x := fun e => by subst e; simp at hne
      simp [this]
    · have hb : (y == z) = false := beq_eq_false_iff_ne.mpr h
      rw [List.lookup_cons, List.lookup_cons, hb, ih]
theorem store_ok {x : Str} {v : V} {ℓ' : Lo} {y : Value} {s : Shared} {Q : Unit → Shared → Prop} (u : Upd x v ℓ ℓ') (k : Ok T (lc env ℓ :: H) s) (r : Rel s.heap v y) (hk' : env.scope.kind = .function)
    (hl : env.kindOf x = some .local ∨ (env.kindOf x = some .cell ∧ ∃ c, env.cells.lookup x = some c ∧ c ∈ ownCells env ∧ (∀ x' c', env.cells.lookup x' = some c' → c' = c → x' = x)))
    (h : ∀ s', Ok T (lc env ℓ' :: H) s' → Go (lc env ℓ :: H) s.heap (lc env ℓ' :: H) s'.heap → Q () s') : wpAny (Mo T) A (storeName env x y) Q NoE s := by
  obtain ⟨_, ⟨m, hn, hv⟩, hoc⟩ := loc_of k
  have nd : (foot env.locals (.loc env ℓ)).Nodup := (List.nodup_append.mp (show (foot env.locals (.loc env ℓ) ++ foots H).Nodup from k.nd)).1
  have hL : env.locals ∉ ownCells env := (List.nodup_cons.mp nd).1
  rcases hl with hl | ⟨hl, c, hc, hcm, huq⟩
  · refine wpAny_storeName_local hl hn (fun h' hn' hs' => ?_) (by rw [hk']; rfl)
    have ca : TupKeep s.heap h' → CellAt T h' env.locals (.loc env ℓ') := by
      intro tk
      refine ⟨rfl, ⟨_, hn', fun z w hz => ?_⟩, fun c hc => ?_⟩
      · rw [u.look] at hz
        by_cases e : z = x
        · subst e
          rw [if_pos rfl] at hz; cases hz
          exact .inl ⟨hl, y, if_pos rfl, r.keep tk⟩
        · rw [if_neg e] at hz
          rcases hv z w hz with ⟨a1, a2, a3, a4⟩ | ⟨a1, c, a2, a3, a4, a5, a6⟩
          · exact .inl ⟨a1, a2, by simp only [if_neg e]; exact a3, a4.keep tk⟩
          · exact .inr ⟨a1, c, a2, a3, a4, IsCell.keep' a5 (fun o e => (hs'.2 c fun z => hL (z ▸ a4)).trans e), a6.keep tk⟩
      · obtain ⟨y', hy'⟩ := hoc c hc
        exact ⟨y', IsCell.keep' hy' fun o e => (hs'.2 c fun z => hL (z ▸ hc)).trans e⟩
    obtain ⟨k', g'⟩ := k.upd (i := 0) (c' := .loc env ℓ') (s' := { s with heap := h', toks := s.toks + 1 }) rfl (fun b o e hb => (hs'.2 b fun z => hb (z ▸ .head _)).trans e) ca rfl rfl rfl
    exact h _ k' g'
  · obtain ⟨y₀, hy₀⟩ := hoc c hcm
    refine wpAny_storeName_cell hk' hl hc hy₀ (fun h' hn' hs' => ?_)
    have ca : TupKeep s.heap h' → CellAt T h' env.locals (.loc env ℓ') := by
      intro tk
      refine ⟨rfl, ⟨m, Ns.keep' hn fun o e => (hs'.2 env.locals fun z => hL (by rw [z]; exact hcm)).trans e, fun z w hz => ?_⟩, fun c' hc' => ?_⟩
      · rw [u.look] at hz
        by_cases e : z = x
        · subst e
          rw [if_pos rfl] at hz; cases hz
          exact .inr ⟨hl, c, y, hc, hcm, hn', r.keep tk⟩
        · rw [if_neg e] at hz
          rcases hv z w hz with ⟨a1, a2, a3, a4⟩ | ⟨a1, c', a2, a3, a4, a5, a6⟩
          · exact .inl ⟨a1, a2, a3, a4.keep tk⟩
          · exact .inr ⟨a1, c', a2, a3, a4, IsCell.keep' a5 (fun o e' => (hs'.2 c' fun z' => e (huq z c' a3 z')).trans e'), a6.keep tk⟩
      · by_cases e : c' = c
        · subst e; exact ⟨_, hn'⟩
        · obtain ⟨y', hy'⟩ := hoc c' hc'
          exact ⟨y', IsCell.keep' hy' fun o e' => (hs'.2 c' e).trans e'⟩
    obtain ⟨k', g'⟩ := k.upd (i := 0) (c' := .loc env ℓ') (s' := { s with heap := h' }) rfl (fun b o e hb => (hs'.2 b fun z => hb (z ▸ .tail _ hcm)).trans e) ca rfl rfl rfl
    exact h _ k' g'
theorem Ex_assign {x : Str} {pos' pos : Pos} {e : Expr} {K} (h : Ev T A env ℓ H e fun v H₁ => ∃ ℓ', Upd x v ℓ ℓ' ∧ K .next ℓ' H₁)
    (hl : env.kindOf x = some .local := by kernel_rfl) (hk' : env.scope.kind = .function := by rfl) (hs : swapsWith e (some (.Name x pos')) pos.line env = pure false := by rfl) : Ex T A env ℓ H (.Assign [.Name x pos'] e pos) K := by
  refine ⟨fun s k => ?_⟩
  refine wpAny_Assign_Name (wpAny_mono (h.run s k) ?_ fun _ _ e => e) hs
  refine fun y s₁ p₀ => p₀.inE fun v H₁ hh₀ r₁ k₁ g₁ => ?_
  obtain ⟨ℓ', u, hK⟩ := hh₀
  exact store_ok u k₁ r₁ hk' (.inl hl) fun s' k' g' => PostG.stI (v := .next) hK rfl k' (g₁.trans g')
theorem Ex_aug {x : Str} {pos' pos : Pos} {op : Operator} {e : Expr} {v : V} {K} (hv : ℓ.lookup x = some v) (h : Ev T A env ℓ H e fun w H₁ => OpI T A (lc env ℓ :: H₁) op v w (inH env ℓ fun z H₂ => ∃ ℓ', Upd x z ℓ ℓ' ∧ K .next ℓ' H₂))
    (hl : env.kindOf x = some .local := by kernel_rfl) (hk' : env.scope.kind = .function := by rfl) : Ex T A env ℓ H (.AugAssign (.Name x pos') op e pos) K := by
  refine ⟨fun s k => ?_⟩
  obtain ⟨_, ⟨m, hn, hv'⟩, _⟩ := loc_of k
  rcases hv' x v hv with ⟨_, y, hy, r⟩ | ⟨hc, _⟩
  · refine wpAny_AugAssign_Name (wpAny_loadName_local hk' hl hn hy (wpAny_mono (h.run s k) ?_ fun _ _ e => e))
    refine fun z s₁ p₀ => p₀.inE fun w H₁ hK r₁ k₁ g₁ => ?_
    refine wpAny_mono (hK.run s₁ y z k₁ (r.keep (g₁.tup k)) r₁) ?_ fun _ _ e => e
    refine fun q s₂ p₀ => p₀.inE fun u' H₂ hh₀ r₂ k₂ g₂ => ?_
    obtain ⟨ℓ', u, hK₂⟩ := hh₀
    exact store_ok u k₂ r₂ hk' (.inl hl) fun s' k' g' => PostG.stI (v := .next) hK₂ rfl k' ((g₁.trans g₂).trans g')
  · rw [hl] at hc; cases hc
/-- an expression for its own sake: its value is no object -/
theorem Ex_expr {e : Expr} {pos : Pos} {K} (h : Ev T A env ℓ H e fun v H₁ => v = .none ∧ K .next ℓ H₁) (hi : interactive env = false := by rfl) (hs : swapsWith e none pos.line env = pure false := by rfl) : Ex T A env ℓ H (.Expr e pos) K := by
  refine ⟨fun s k => ?_⟩
  refine wpAny_Expr (wpAny_mono (h.run s k) ?_ fun _ _ e => e) hi hs
  refine fun x s₁ p₀ => p₀.inE fun v₀ H₁ hh₀ r₁ k₁ g₁ => ?_
  obtain ⟨rfl, hK⟩ := hh₀
  cases r₁
  exact PostG.stI (v := .next) hK rfl k₁ g₁
end
end Mine
end
section
open PySem PySem.Spec PySem.Calls PyProof.Rows PySem.P
namespace Mine
/-- room for so many calls within calls -/
structure Rm (A : Around) (n : Nat) : Prop where
  handled : A.handled = none
  depth : A.depth + n ≤ 900
  units : A.units + 20 * n + 40 ≤ 9000
theorem Rm.lt {A : Around} {n : Nat} (r : Rm A n) : A.depth < recursionLimit := by have := r.depth; show A.depth < 1000; omega
theorem Rm.u {A : Around} {n : Nat} (r : Rm A n) : A.units < cLine := by have := r.units; show A.units < 9900; omega
theorem Rm.deeper {A : Around} {n : Nat} (r : Rm A (n + 1)) (env : Env) : Rm (A.deeper env) n := by
  refine ⟨r.handled, ?_, ?_⟩
  · have := r.depth; show A.depth + 1 + n ≤ 900; omega
  · have := r.units; show A.units + 3 + 20 * n + 40 ≤ 9000; omega
theorem Rm.in1 {A : Around} {n : Nat} (r : Rm A (n + 1)) : Rm A.in1 n := by
  refine ⟨r.handled, ?_, ?_⟩
  · have := r.depth; show A.depth + n ≤ 900; omega
  · have := r.units; show A.units + 1 + 20 * n + 40 ≤ 9000; omega
theorem Rm.le {A : Around} {n m : Nat} (r : Rm A n) (h : m ≤ n) : Rm A m := ⟨r.handled, by have := r.depth; omega, by have := r.units; omega⟩

theorem RelL.get {h : Heap} : ∀ {vs : List V} {xs : List Value} {n : Nat} {v : V}, RelL h vs xs → vs[n]? = some v → ∃ x, xs[n]? = some x ∧ Rel h v x
  | [], _, _, _, _, e => by cases e
  | w :: vs, _, n, v, r, e => by
    simp only [RelL] at r
    obtain ⟨x, ys, rfl, a, b⟩ := r
    cases n with
    | zero => cases e; exact ⟨x, rfl, a⟩
    | succ n =>
      obtain ⟨z, hz, rz⟩ := RelL.get (n := n) b (by simpa using e)
      exact ⟨z, by simpa using hz, rz⟩
theorem RelL.set {h : Heap} : ∀ {vs : List V} {xs : List Value} {n : Nat} {v : V} {x : Value}, RelL h vs xs → Rel h v x → RelL h (vs.set n v) (xs.set n x)
  | [], _, _, _, _, r, _ => by simp only [RelL] at r; subst r; simp [RelL]
  | w :: vs, _, n, v, y, r, e => by
    simp only [RelL] at r
    obtain ⟨x, ys, rfl, a, b⟩ := r
    cases n with
    | zero => exact ⟨y, ys, rfl, e, b⟩
    | succ n => exact ⟨x, ys.set n y, rfl, a, RelL.set b e⟩
theorem RelL.append {h : Heap} : ∀ {vs ws : List V} {xs ys : List Value}, RelL h vs xs → RelL h ws ys → RelL h (vs ++ ws) (xs ++ ys)
  | [], _, _, _, r, q => by simp only [RelL] at r; subst r; exact q
  | w :: vs, _, _, ys, r, q => by
    simp only [RelL] at r
    obtain ⟨x, zs, rfl, a, b⟩ := r
    exact ⟨x, zs ++ ys, rfl, a, RelL.append b q⟩
theorem RelL.one {h : Heap} {v : V} {x : Value} (r : Rel h v x) : RelL h [v] [x] := ⟨x, [], rfl, r, rfl⟩
theorem RelL.take {h : Heap} : ∀ {vs : List V} {xs : List Value} (n : Nat), RelL h vs xs → RelL h (vs.take n) (xs.take n)
  | [], _, n, r => by simp only [RelL] at r; subst r; simp [RelL]
  | w :: vs, _, 0, r => by simp [RelL]
  | w :: vs, _, n + 1, r => by
    simp only [RelL] at r
    obtain ⟨x, ys, rfl, a, b⟩ := r
    exact ⟨x, ys.take n, rfl, a, RelL.take n b⟩
theorem RelL.drop {h : Heap} : ∀ {vs : List V} {xs : List Value} (n : Nat), RelL h vs xs → RelL h (vs.drop n) (xs.drop n)
  | [], _, n, r => by simp only [RelL] at r; subst r; simp [RelL]
  | w :: vs, _, 0, r => r
  | w :: vs, _, n + 1, r => by
    simp only [RelL] at r
    obtain ⟨x, ys, rfl, a, b⟩ := r
    exact RelL.drop n b
section
variable {T : TI} {A : Around} {C : Cs}
theorem O_add {a b : Int} {K} (h : K (.int (a + b)) C) : OpB T A C .Add (.int a) (.int b) K := by
  refine ⟨?_⟩
  rintro s _ _ k ⟨t, rfl⟩ ⟨u, rfl⟩
  exact PySem.P.add_int (ret_growC h k (Grow.tok s _) ⟨_, rfl⟩)
theorem O_sub {a b : Int} {K} (h : K (.int (a - b)) C) : OpB T A C .Sub (.int a) (.int b) K := by
  refine ⟨?_⟩
  rintro s _ _ k ⟨t, rfl⟩ ⟨u, rfl⟩
  exact PySem.P.sub_int (ret_growC h k (Grow.tok s _) ⟨_, rfl⟩)
theorem O_iadd {a b : Int} {K} (h : K (.int (a + b)) C) : OpI T A C .Add (.int a) (.int b) K := by
  refine ⟨?_⟩
  rintro s _ _ k ⟨t, rfl⟩ ⟨u, rfl⟩
  exact PySem.P.iadd_int (ret_growC h k (Grow.tok s _) ⟨_, rfl⟩)
theorem O_mul {a b : Int} {K} (hm : IntMulOk a b) (h : K (.int (a * b)) C) : OpB T A C .Mult (.int a) (.int b) K := by
  refine ⟨?_⟩
  rintro s _ _ k ⟨t, rfl⟩ ⟨u, rfl⟩
  exact PySem.P.mul_int (ret_growC h k (Grow.tok s _) ⟨_, rfl⟩) hm
theorem O_fdiv {a b : Int} {K} (hb : b ≠ 0) (hs : b.natAbs < 1073741824) (h : K (.int (a.fdiv b)) C) : OpB T A C .FloorDiv (.int a) (.int b) K := by
  refine ⟨?_⟩
  rintro s _ _ k ⟨t, rfl⟩ ⟨u, rfl⟩
  exact PyProof.Rows.floordiv_int hb (ret_growC h k (Grow.tok s _) ⟨_, rfl⟩) (.inl (PyProof.noPylong_small hs))
theorem O_fmod {a b : Int} {K} (hb : b ≠ 0) (h : K (.int (a.fmod b)) C) : OpB T A C .Mod (.int a) (.int b) K := by
  refine ⟨?_⟩
  rintro s _ _ k ⟨t, rfl⟩ ⟨u, rfl⟩
  exact PyProof.Rows.mod_int hb (ret_growC h k (Grow.tok s _) ⟨_, rfl⟩)
theorem O_rsh {a n : Int} {K} (hn : 0 ≤ n) (h : K (.int (a.fdiv (2 ^ n.toNat))) C) : OpB T A C .RShift (.int a) (.int n) K := by
  refine ⟨?_⟩
  rintro s _ _ k ⟨t, rfl⟩ ⟨u, rfl⟩
  exact PyProof.Rows.rshift_int hn (ret_growC h k (Grow.tok s _) ⟨_, rfl⟩)
theorem O_pow {a n : Int} {K} (hn : 0 ≤ n) (hn2 : n ≤ 1000000) (ha : a.natAbs < 2 ^ 64) (h : K (.int (a ^ n.toNat)) C) : OpB T A C .Pow (.int a) (.int n) K := by
  refine ⟨?_⟩
  rintro s _ _ k ⟨t, rfl⟩ ⟨u, rfl⟩
  exact PyProof.Rows.pow_int_small hn hn2 ha (ret_growC h k (Grow.tok s _) ⟨_, rfl⟩)
theorem O_lt {a b : Int} {K} (h : K (.bool (decide (a < b))) C) : OpC T A C .Lt (.int a) (.int b) K := by
  refine ⟨?_⟩
  rintro s _ _ k ⟨t, rfl⟩ ⟨u, rfl⟩
  exact PySem.P.lt_int (ret_growC h k (Grow.refl s) rfl)
theorem O_gt {a b : Int} {K} (h : K (.bool (decide (a > b))) C) : OpC T A C .Gt (.int a) (.int b) K := by
  refine ⟨?_⟩
  rintro s _ _ k ⟨t, rfl⟩ ⟨u, rfl⟩
  exact PySem.P.gt_int (ret_growC h k (Grow.refl s) rfl)
theorem O_eq {a b : Int} {K} (h : K (.bool (a == b)) C) : OpC T A C .Eq (.int a) (.int b) K := by
  refine ⟨?_⟩
  rintro s _ _ k ⟨t, rfl⟩ ⟨u, rfl⟩
  exact PySem.P.eq_int (ret_growC h k (Grow.refl s) rfl)
theorem O_eqs {a b : Str} {K} (h : K (.bool (a == b)) C) : OpC T A C .Eq (.str a) (.str b) K := by
  refine ⟨?_⟩
  rintro s _ _ k ⟨t, rfl⟩ ⟨u, rfl⟩
  exact PyProof.Rows.eq_str (ret_growC h k (Grow.refl s) rfl)
theorem O_ins {a b : Str} {K} (h : K (.bool !(Builtin.Str.occurrences b a 0 b.length 1).isEmpty) C) : OpC T A C .In (.str a) (.str b) K := by
  refine ⟨?_⟩
  rintro s _ _ k ⟨t, rfl⟩ ⟨u, rfl⟩
  exact PySem.P.in_str (ret_growC h k (Grow.refl s) rfl)
theorem T_bool {b : Bool} {K} (h : K b C) : OpT T A C (.bool b) K := by
  refine ⟨?_⟩
  rintro s _ k rfl
  exact wpAny_truthy_bool ⟨b, _, h, rfl, k, Go.refl _ _⟩
/-- an object of the ledger -/
theorem cell_at {s : Shared} {i : Nat} {a : Addr} {c : Cell} (k : Ok T C s) (hi : C[i]? = some (a, c)) : CellAt T s.heap a c := k.cells _ (List.mem_of_getElem? hi)
theorem T_list {i : Nat} {a : Addr} {vs : List V} {K} (hi : C[i]? = some (a, .list vs)) (hn : vs.length ≤ 1000000) (h : K (!vs.isEmpty) C) : OpT T A C (.ref a) K := by
  refine ⟨?_⟩
  rintro s _ k rfl
  obtain ⟨items, n, hl, r⟩ := cell_at k hi
  have hlen := r.length
  rw [Array.length_toList] at hlen
  have he : (!items.isEmpty) = !vs.isEmpty := by
    cases vs with
    | nil => have : items = #[] := Array.eq_empty_of_size_eq_zero (by simpa using hlen); subst this; rfl
    | cons v vs => have : items.size ≠ 0 := by simp at hlen; omega
                   simp [Array.isEmpty, this]
  refine wpAny_truthy_list hl.isList (by omega) ?_
  rw [he]
  exact ⟨_, _, h, rfl, (k.grow (Grow.tok s _)).1, (k.grow (Grow.tok s _)).2⟩
end

section
variable {T : TI} {A : Around} {C : Cs} {value slice : Expr}
/-- an item of a list -/
theorem O_item {i : Nat} {a : Addr} {vs : List V} {n : Int} {v : V} {K} (hi : C[i]? = some (a, .list vs)) (h0 : 0 ≤ n) (hfit : n < 2 ^ 63) (hv : vs[n.toNat]? = some v) (h : K v C)
    (hs : ∀ o i, subscripted slice false o i = operate [o, i] (getItem o i) := by intro _ _; rfl) : OpS T A C value slice (.ref a) (.int n) K := by
  refine ⟨?_⟩
  rintro s _ _ k rfl ⟨u, rfl⟩
  obtain ⟨items, nn, hl, r⟩ := cell_at k hi
  obtain ⟨x, hx, rx⟩ := r.get hv
  exact tail_any hl.isList.typeIs slot_list_getitem.lookup (wpAny_getItem_list hl.isList h0 hfit (by simpa using hx) (ret_growC h k (Grow.refl s) rx)) (hs _ _)
/-- an item of a tuple -/
theorem O_itemT {vs : List V} {n : Int} {v : V} {K} (h0 : 0 ≤ n) (hfit : n < 2 ^ 63) (hv : vs[n.toNat]? = some v) (h : K v C)
    (hs : ∀ o i, subscripted slice false o i = operate [o, i] (getItem o i) := by intro _ _; rfl) : OpS T A C value slice (.tup vs) (.int n) K := by
  refine ⟨?_⟩
  rintro s _ _ k ⟨a, items, nn, rfl, ht, r⟩ ⟨u, rfl⟩
  obtain ⟨x, hx, rx⟩ := r.get hv
  have hlt : n < items.size := by
    obtain ⟨hl, _⟩ := List.getElem?_eq_some_iff.mp hx
    rw [Array.length_toList] at hl
    omega
  exact tail_any (T := "tuple") ⟨_, ht, rfl⟩ F.slot_tuple_getitem.lookup (getItem_tuple ht (by omega) hfit (seqIndex_of h0 hlt) (by simpa using hx) (ret_growC h k (Grow.refl s) rx)) (hs _ _)
end
section
variable {T : TI} {A : Around} {env : Env} {ℓ : Lo} {H : Cs}
theorem Ev_sub {value slice : Expr} {pos : Pos} {K}
    (h : Ev T A env ℓ H value fun v H₁ => Ev T A env ℓ H₁ slice fun w H₂ => OpS T A (lc env ℓ :: H₂) value slice v w (inH env ℓ K)) : Ev T A env ℓ H (.Subscript value slice pos) K := by
  refine ⟨fun s k => ?_⟩
  refine Subscript_ (wpAny_mono (h.run s k) ?_ fun _ _ e => e)
  refine fun x s₁ p₀ => p₀.inE fun v H₁ hK r₁ k₁ g₁ => ?_
  refine wpAny_mono (hK.run s₁ k₁) ?_ fun _ _ e => e
  refine fun y s₂ p₀ => p₀.inE fun w H₂ hK₂ r₂ k₂ g₂ => ?_
  exact wp_trans (g₁.trans g₂) (hK₂.run s₂ x y k₂ (r₁.keep (g₂.tup k₁)) r₂)

theorem setItem_exact {prog : Program} {w : World} {A : Around} {E : Value → Shared → Prop} {s : Shared} {l : Addr} {items : Array Value} {n : Nat} {k : Int} {t : Tok} {v : Value} {Q : Unit → Shared → Prop} (hl : IsL s.heap l items n)
    (h0 : 0 ≤ k) (hfit : k < 2 ^ 63) (hn : k < items.size)
    (hQ : Q () { s with heap := s.heap.update l (Obj.mapSeq (·.setIfInBounds k.toNat v)) }) : wpAny (model prog w) A (setItem (.ref l) (.int k t) v) Q E s := by
  unfold setItem
  try with_reducible refine wpAny_holding ?_
  first | refine wpAny_bind (wpAny_pure ?_) | skip
  refine wpAny_bind (wpAny_sequenceKey hl.isList.typeIs (by decide) ?_)
  refine wpAny_bind (wpAny_callSpecial?_slot (name := Str.ofString "__setitem__") hl.isList.typeIs slot_list_setitem (wpAny_call_entry slot_list_setitem hl.isList.typeIs entry_list_setitem ?_ (args_list_setitem _ _ _)))
  show wpAny _ _ (Builtin.List.listSubscript? (.int k t) >>= _) _ _ s
  refine wpAny_bind (wpAny_listSubscript_int (fitsIndex_of h0 hfit) ?_)
  clear hfit
  obtain ⟨j, rfl⟩ := Int.eq_ofNat_of_zero_le h0
  have hj : j < items.size := by omega
  have hx' : items[j]? = some items[j] := Array.getElem?_eq_getElem hj
  show wpAny _ _ ((seqItemAt l j >>= fun r => pure (r.map (j, ·))) >>= _) _ _ s
  refine wpAny_bind (wpAny_bind (wpAny_seqItemAt hl rfl (wpAny_pure ?_)))
  rw [hx']
  show wpAny _ _ (setSeqItemAt l j v >>= _) _ _ s
  refine wpAny_bind (wpAny_setSeqItemAt hl rfl ?_)
  first
    | exact wpAny_bind (wpAny_pure (wpAny_pure ⟨.none, rfl, wpAny_pure hQ⟩))
    | exact wpAny_pure ⟨.none, rfl, wpAny_pure hQ⟩

/-- a list of the ledger turned in place -/
theorem list_upd {C : Cs} {s : Shared} {i : Nat} {a : Addr} {vs vs' : List V} {items : Array Value} {n : Nat} {f : Array Value → Array Value} {t : Nat} (k : Ok T C s) (hi : C[i]? = some (a, .list vs)) (hl : IsL s.heap a items n)
    (r : TupKeep s.heap (s.heap.update a (Obj.mapSeq f)) → RelL (s.heap.update a (Obj.mapSeq f)) vs' (f items).toList) :
    Ok T (C.set i (a, .list vs')) { s with heap := s.heap.update a (Obj.mapSeq f), toks := t } ∧ Go C s.heap (C.set i (a, .list vs')) (s.heap.update a (Obj.mapSeq f)) := by
  have hs : Heap.SameBut a s.heap (s.heap.update a (Obj.mapSeq f)) := Heap.SameBut.update ..
  exact k.upd (s' := { s with heap := s.heap.update a (Obj.mapSeq f), toks := t }) hi (fun b o e hb => (hs.2 b fun z => hb (z ▸ .head _)).trans e) (fun tk => ⟨f items, _, IsL.update hl f, r tk⟩) rfl rfl rfl

/-- xs[i] = v -/
theorem Ex_setitem {o i : Expr} {pos' pos : Pos} {e : Expr} {K}
    (h : Ev T A env ℓ H e fun v H₁ => Ev T A env ℓ H₁ o fun w H₂ => Ev T A env ℓ H₂ i fun x H₃ => ∃ a j vs n, w = .ref a ∧ x = .int n ∧ H₃[j]? = some (a, .list vs) ∧ 0 ≤ n ∧ n < vs.length ∧ vs.length ≤ 1000000 ∧ K .next ℓ (H₃.set j (a, .list (vs.set n.toNat v))))
    (hs : swapsWith e (some (.Subscript o i pos')) pos.line env = pure false := by rfl) : Ex T A env ℓ H (.Assign [.Subscript o i pos'] e pos) K := by
  refine ⟨fun s k => ?_⟩
  refine wpAny_Assign_Subscript (wpAny_mono (h.run s k) ?_ fun _ _ e => e) hs
  refine fun y s₁ p₀ => p₀.inE fun v H₁ hK r₁ k₁ g₁ => ?_
  refine wpAny_mono (hK.run s₁ k₁) ?_ fun _ _ e => e
  refine fun _ s₂ p₀ => p₀.inE fun w H₂ hK₂ r₂ k₂ g₂ => ?_
  refine wpAny_mono (hK₂.run s₂ k₂) ?_ fun _ _ e => e
  refine fun _ s₃ p₀ => p₀.inE fun x H₃ hh₀ rr₀ k₃ g₃ => ?_
  obtain ⟨a, j, vs, n, rfl, rfl, hj, h0, hlt, hn, hK₃⟩ := hh₀
  obtain ⟨u, rfl⟩ := rr₀
  cases r₂
  have hi : (lc env ℓ :: H₃)[j + 1]? = some (a, .list vs) := by simpa using hj
  obtain ⟨items, nn, hl, r⟩ := cell_at k₃ hi
  have hlen := r.length
  rw [Array.length_toList] at hlen
  have ry : Rel s₃.heap v y := (r₁.keep (g₂.tup k₁)).keep (g₃.tup k₂)
  refine setItem_exact hl h0 (by omega) (by omega) ?_
  obtain ⟨k₄, g₄⟩ := list_upd (vs' := vs.set n.toNat v) (f := (·.setIfInBounds n.toNat y)) (t := s₃.toks) k₃ hi hl (fun tk => by simpa using (r.keep tk).set (ry.keep tk))
  exact PostG.stI (v := .next) hK₃ rfl k₄ (((g₁.trans g₂).trans g₃).trans g₄)
end
end Mine
end
section
open PySem PySem.Spec PySem.Calls PyProof.Rows PySem.P
namespace Mine
section
variable {T : TI} {A : Around} {env : Env} {ℓ : Lo} {H : Cs}
/-- a while loop under way -/
structure Wh (T : TI) (A : Around) (env : Env) (ℓ : Lo) (H : Cs) (test : Expr) (body orelse : List Stmt) (K : Fl → Lo → Cs → Prop) : Prop where
  run : ∀ s, Ok T (lc env ℓ :: H) s → codeAny (Mo T) A (.whileLoop test body orelse env) (fun r s' => ∃ f, r = .ok f ∧ PostG T (lc env ℓ :: H) s.heap RelF (fun f C' => ∃ ℓ' H', C' = lc env ℓ' :: H' ∧ K f ℓ' H') f s') s
noncomputable def whK (T : TI) (A : Around) (env : Env) (test : Expr) (body orelse : List Stmt) (K : Fl → Lo → Cs → Prop) : Fl → Lo → Cs → Prop
  | .next, ℓ, H => Wh T A env ℓ H test body orelse K
  | .cont, ℓ, H => Wh T A env ℓ H test body orelse K
  | .brk, ℓ, H => K .next ℓ H
  | .ret v, ℓ, H => K (.ret v) ℓ H
theorem Wh_step {test : Expr} {body orelse : List Stmt} {K}
    (h : Tr T A env ℓ H test fun b H₁ => if b then Exs T A env ℓ H₁ body (whK T A env test body orelse K) else Exs T A env ℓ H₁ orelse K) : Wh T A env ℓ H test body orelse K := by
  refine ⟨fun s k => ?_⟩
  refine codeAny_of_tree ?_
  show wpAny _ A ((whileTurn test body orelse env).onRaise (fun x => do noteFrame x env; theTreesLotGoes x)) _ _ s
  refine wpAny_noted (wpAny_mono (E := NoE) ?_ (fun _ _ q => q) fun _ _ e => e.elim)
  simp only [whileTurn]
  refine wpAny_bind (wpAny_mono (h.run s k) ?_ fun _ _ e => e)
  refine fun b s₁ p₀ => p₀.inE fun b' H₁ hK rr₀ k₁ g₁ => ?_
  obtain rfl := rr₀
  cases b with
  | false =>
    refine wpAny_bind (wpAny_mono (hK.run s₁ k₁) ?_ fun _ _ e => e)
    intro f s₂ p
    exact wpAny_pure ⟨f, rfl, p.trans g₁⟩
  | true =>
    refine wpAny_bind (wpAny_mono (hK.run s₁ k₁) ?_ fun _ _ e => e)
    refine fun f s₂ p₀ => p₀.stE fun fl ℓ₂ H₂ hK₂ r₂ k₂ g₂ => ?_
    cases fl with
    | next =>
      cases r₂
      exact wpAny_pure ⟨rfl, codeAny_mono (hK₂.run s₂ k₂) fun r s' ⟨f, e, p⟩ => ⟨f, e, (p.trans g₂).trans g₁⟩⟩
    | cont =>
      cases r₂
      exact wpAny_pure ⟨rfl, codeAny_mono (hK₂.run s₂ k₂) fun r s' ⟨f, e, p⟩ => ⟨f, e, (p.trans g₂).trans g₁⟩⟩
    | brk => cases r₂; exact wpAny_pure ⟨_, rfl, .next, _, ⟨ℓ₂, H₂, rfl, hK₂⟩, rfl, k₂, g₁.trans g₂⟩
    | ret v => obtain ⟨x, rfl, r⟩ := r₂; exact wpAny_pure ⟨_, rfl, .ret v, _, ⟨ℓ₂, H₂, rfl, hK₂⟩, ⟨x, rfl, r⟩, k₂, g₁.trans g₂⟩
theorem Ex_while {test : Expr} {body orelse : List Stmt} {pos : Pos} {K} (h : Wh T A env ℓ H test body orelse K) : Ex T A env ℓ H (.While test body orelse pos) K := ⟨fun s k =>
  wpAny_While (codeAny_mono (h.run s k) fun r s' ⟨f, e, p⟩ => by subst e; exact p)⟩
/-- a call -/
structure Call (T : TI) (A : Around) (C : Cs) (f : Value) (vs : List V) (K : V → Cs → Prop) : Prop where
  run : ∀ s xs, Ok T C s → RelL s.heap vs xs → wpAny (Mo T) A (call f xs) (PostG T C s.heap Rel K) NoE s
theorem Call.frame {C C₀ Fr : Cs} {f : Value} {vs : List V} {K} (w : Call T A C f vs K) (p : C₀.Perm (C ++ Fr)) : Call T A C₀ f vs (fun v C'' => ∃ C', K v C' ∧ C'' = C' ++ Fr) := ⟨fun s xs k r =>
  wpAny_mono (w.run s xs (k.perm p).left r) (fun x s' q => by
    obtain ⟨v, C', hK, r, k', g'⟩ := q
    obtain ⟨k₃, g₃⟩ := (k.perm p).frame k' g'
    exact ⟨v, _, ⟨C', hK, rfl⟩, r, k₃, g₃.permL p.symm⟩) fun _ _ e => e⟩
/-- a call, by its code -/
structure CallC (T : TI) (A : Around) (C : Cs) (f : Value) (vs : List V) (K : V → Cs → Prop) : Prop where
  run : ∀ s xs, Ok T C s → RelL s.heap vs xs → codeAny (Mo T) A (.call f ⟨xs, []⟩) (fun r s' => ∃ x, r = .ok (.ret x) ∧ PostG T C s.heap Rel K x s') s
theorem CallC.call {C : Cs} {f : Value} {vs : List V} {K} (h : CallC T A C f vs K) : Call T A C f vs K :=
  ⟨fun s xs k r => wpAny_call (codeAny_mono (h.run s xs k r) fun r s' ⟨x, e, p⟩ => by subst e; exact p)⟩
/-- a callee that knows but one thing of the ledger -/
theorem Call.at {C : Cs} {i : Nat} {a : Addr} {c : Cell} {f : Value} {vs : List V} {K K'} (w : Call T A [(a, c)] f vs K) (hi : C[i]? = some (a, c)) (hk : ∀ v C', K v C' → ∃ c', C' = [(a, c')] ∧ K' v (C.set i (a, c'))) : Call T A C f vs K' := by
  refine ⟨fun s xs k r => ?_⟩
  obtain ⟨p, _⟩ := set_perm (y := (a, c)) hi
  refine wpAny_mono ((w.frame p).run s xs k r) (fun x s' q => ?_) fun _ _ e => e
  obtain ⟨v, _, ⟨C', hK, rfl⟩, r, k', g'⟩ := q
  obtain ⟨c', rfl, hK'⟩ := hk v C' hK
  obtain ⟨_, p'⟩ := set_perm (y := (a, c')) hi
  exact ⟨v, _, hK', r, k'.perm p', g'.permR p'⟩
noncomputable def Callee (T : TI) (C : Cs) (f : Value) : Prop :=
  (∃ id, f = .builtin id) ∨ (∃ n, f = .type n) ∨ ∃ a, f = .ref a ∧ ∀ s, Ok T C s → ∃ k, (k = Keeper.frame ∨ k = Keeper.machine ∨ k = Keeper.boundFrame) ∧ PySem.W.Looks (Mo T) s.heap (keeperOf (.ref a)) k
theorem keeper_fn {M : Model} {h : Heap} {a : Addr} {o : Obj} {fd : FuncData} (ho : h.get? a = some o) (hd : o.data = .func fd) : PySem.W.Looks M h (keeperOf (.ref a)) Keeper.frame := fun A Q E s k q => by
  unfold keeperOf
  refine wpAny_bind (wpAny_load (k _ _ ho) ?_)
  rw [hd]; exact wpAny_pure q
theorem evalArgs_any {M : Model} {E : Value → Shared → Prop} {s : Shared} {f : Value} {trees : List (Bool × Sem Value)} {Q : Args → Shared → Prop} (hp : trees.any (·.1) = false) (h : wpAny M A (spliced trees) (fun vs s' => Q ⟨vs, []⟩ s') E s) :
    wpAny M A (evalArgs f true trees []) Q E s := by
  cases trees with
  | nil =>
    unfold evalArgs
    show wpAny M A (spliced [] >>= _) Q E s
    refine wpAny_bind (wpAny_mono h (fun vs s' h' => wpAny_bind (wpAny_pure ?_)) fun _ _ e => e)
    refine wpAny_holding ?_
    exact wpAny_bind (wpAny_pure (wpAny_bind (wpAny_pure (wpAny_pure h'))))
  | cons t rest =>
    obtain ⟨b, x⟩ := t
    cases b with
    | true => simp at hp
    | false => exact evalArgs_plain h
theorem callWith_ok {f : Value} {first : List Value} {fv : List V} {pos : Pos} {args : List Expr} {K} {s : Shared} (k : Ok T (lc env ℓ :: H) s) (r : RelL s.heap fv first)
    (h : Evs T A env ℓ H pos args fun vs H₁ => Callee T (lc env ℓ :: H₁) f ∧ Call T A (lc env ℓ :: H₁) f (fv ++ vs) (inH env ℓ K))
    (hf : (∃ id, f = .builtin id) ∨ (∃ n, f = .type n) ∨ ∃ a, f = .ref a) (hp : (backTo pos (starEach args env)).any (·.1) = false) : wpAny (Mo T) A (callWith pos f first (backTo pos (starEach args env)) []) (PostG T (lc env ℓ :: H) s.heap Rel (inH env ℓ K)) NoE s := by
  have key : ∀ xs s₁, PostG T (lc env ℓ :: H) s.heap RelL (fun v C' => ∃ H', C' = lc env ℓ :: H' ∧ (Callee T (lc env ℓ :: H') f ∧ Call T A (lc env ℓ :: H') f (fv ++ v) (inH env ℓ K))) xs s₁ →
      (∃ C', Callee T C' f ∧ Ok T C' s₁) ∧ wpAny (Mo T) A (call f (first ++ xs)) (PostG T (lc env ℓ :: H) s.heap Rel (inH env ℓ K)) NoE s₁ := by
    refine fun xs s₁ p₀ => p₀.inE fun vs H₁ hh₀ r₁ k₁ g₁ => ?_
    obtain ⟨hc, hK⟩ := hh₀
    exact ⟨⟨_, hc, k₁⟩, wp_trans g₁ (hK.run s₁ _ k₁ ((r.keep (g₁.tup k)).append r₁))⟩
  have w := wpAny_mono (h.run s k) key fun _ _ e => e
  rcases hf with ⟨id, rfl⟩ | ⟨n, rfl⟩ | ⟨a, rfl⟩
  · exact callWith_builtin hp (evalArgs_any hp (wpAny_mono w (fun xs s₁ q => q.2) fun _ _ e => e))
  · exact PyProof.Rows.callWith_type hp (evalArgs_any hp (wpAny_mono w (fun xs s₁ q => q.2) fun _ _ e => e))
  · refine PySem.W.callWith_of (P := fun h => ∃ k, (k = Keeper.frame ∨ k = Keeper.machine ∨ k = Keeper.boundFrame) ∧ PySem.W.Looks (Mo T) h (keeperOf (.ref a)) k) (by rw [hp]; rfl) (fun h q => q) (evalArgs_any hp (wpAny_mono w (fun xs s₁ q => ⟨?_, q.2⟩) fun _ _ e => e))
    obtain ⟨⟨C', hc, k'⟩, _⟩ := q
    rcases hc with ⟨id, e⟩ | ⟨n, e⟩ | ⟨a', e, hh⟩
    · cases e
    · cases e
    · cases e; exact hh s₁ k'
/-- f(..): f a name of the text or a built-in -/
noncomputable def FV : V → Value → Prop
  | .bi i, f => f = .builtin i
  | .ty n, f => f = .type n
  | .ref a, f => f = .ref a
  | _, _ => False
theorem FV.kind {v : V} {f : Value} (h : FV v f) : (∃ id, f = .builtin id) ∨ (∃ n, f = .type n) ∨ ∃ a, f = .ref a := by
  cases v <;> simp only [FV] at h <;> first | exact .inl ⟨_, h⟩ | exact .inr (.inl ⟨_, h⟩) | exact .inr (.inr ⟨_, h⟩)
theorem FV.eq {v : V} {f x : Value} {hp : Heap} (h : FV v f) (r : Rel hp v x) : x = f := by
  cases v <;> simp only [FV] at h <;> simp only [Rel] at r <;> rw [h, r]
theorem Ev_call {x : Str} {p pos : Pos} {args : List Expr} {K}
    (h : Ev T A env ℓ H (.Name x p) fun v H₁ => ∃ f, FV v f ∧ Evs T A env ℓ H₁ pos args fun vs H₂ => Callee T (lc env ℓ :: H₂) f ∧ Call T A (lc env ℓ :: H₂) f vs (inH env ℓ K))
    (hp : (backTo pos (starEach args env)).any (·.1) = false := by rfl) : Ev T A env ℓ H (.Call (.Name x p) args [] pos) K := by
  refine ⟨fun s k => ?_⟩
  refine PyProof.Rows.Call_Name rfl (wpAny_mono (h.run s k) ?_ fun _ _ e => e)
  refine fun y s₁ p₀ => p₀.inE fun v H₁ hh₀ r₁ k₁ g₁ => ?_
  obtain ⟨f, hf, hK⟩ := hh₀
  cases hf.eq r₁
  exact wp_trans g₁ (callWith_ok (fv := []) k₁ rfl hK hf.kind hp)
/-- the def's own objects of the top -/
structure DefAt (T : TI) (a : Addr) (fd : FuncData) (body : List Stmt) : Prop where
  at' : ∃ o, T.h₁.get? a = some o ∧ o.data = .func fd
  ne : a ≠ T.tb
  lim : cStatics ≠ T.tb ∧ ∃ m, T.h₁.Ns cStatics m ∧ m "sys.recursionlimit" = none
  code : ∃ c o vs t, fd.code = .ref c ∧ c ≠ T.tb ∧ T.h₁.get? c = some o ∧ o.data = .fields vs ∧ vs[1]? = some (.str fd.qualname t)
  body : fd.body = .stmts body
theorem DefAt.callee {a : Addr} {fd : FuncData} {body : List Stmt} (d : DefAt T a fd body) (C : Cs) : Callee T C (.ref a) := .inr (.inr ⟨a, rfl, fun s k => by
  obtain ⟨o, ho, hd⟩ := d.at'
  exact ⟨_, .inl rfl, keeper_fn (k.top _ _ ho d.ne) hd⟩⟩)
theorem lookup_zip_rev {h : Heap} {x : Str} {v : V} : ∀ {names : List Str} {vs : List V} {xs : List Value}, names.Nodup → RelL h vs xs → (names.zip vs).lookup x = some v → ∃ y, (names.zip xs).reverse.lookup x = some y ∧ Rel h v y
  | [], _, _, _, _, e => by simp at e
  | n :: names, [], _, _, _, e => by simp at e
  | n :: names, w :: vs, _, nd, r, e => by
    simp only [RelL] at r
    obtain ⟨y, ys, rfl, a, b⟩ := r
    obtain ⟨nd1, nd2⟩ := List.nodup_cons.mp nd
    rw [List.zip_cons_cons, List.lookup_cons] at e
    rw [List.zip_cons_cons, List.reverse_cons, List.lookup_append]
    by_cases hx : x = n
    · subst hx
      simp at e; subst e
      have : List.lookup x (names.zip ys).reverse = none := by
        rw [List.lookup_eq_none_iff]
        intro p hp
        have := (List.of_mem_zip (List.mem_reverse.mp hp)).1
        simp only [bne_iff_ne, ne_eq, beq_eq_false_iff_ne]
        intro e; exact nd1 (e ▸ this)
      rw [this]
      exact ⟨y, by simp, a⟩
    · have hb : (x == n) = false := beq_eq_false_iff_ne.mpr hx
      rw [hb] at e
      obtain ⟨y', hy', r'⟩ := lookup_zip_rev nd2 b e
      exact ⟨y', by rw [hy']; rfl, r'⟩
noncomputable def retV : Fl → V
  | .ret v => v
  | _ => .none
/-- a def of the text, called by place -/
theorem CallC_def {n : Nat} {C : Cs} {a : Addr} {fd : FuncData} {body : List Stmt} {names : List Str} {vs : List V} {ℓ₀ : Lo} {K} (d : DefAt T a fd body) (rm : Rm A (n + 1))
    (hbind : ∀ xs, xs.length = vs.length → bindArgs fd ⟨xs, []⟩ = pure (names.zip xs)) (hnd : names.Nodup) (hlen : names.length = vs.length)
    (hcell : ∀ x ∈ fd.scope.names, x.2 ≠ .cell) (hloc : ∀ x ∈ names, fd.scope.names.lookup x = some .local)
    (h : ∀ L, Exs T (A.deeper (callEnv fd L a)) (callEnv fd L a) ℓ₀ C body (fun fl _ H' => ∃ H'', H''.Sublist H' ∧ K (retV fl) H'')) (hz : names.zip vs = ℓ₀ := by rfl)
    (hco : fd.scope.isCoroutine = false := by rfl) (hgen : fd.scope.isGenerator = false := by rfl) (hk : fd.scope.kind = .function := by rfl) : CallC T A C (.ref a) vs K := by
  subst hz
  refine ⟨fun s xs k r => ?_⟩
  obtain ⟨o, ho, hd⟩ := d.at'
  have own : ∀ L, ownCells (callEnv fd L a) = [] := fun L => by
    unfold ownCells
    rw [if_neg]
    simp only [Bool.and_eq_true, List.any_eq_true, not_exists, not_and]
    intro _ x hx e
    exact hcell x hx (by simpa using e)
  have hxl := r.length
  have hlim : s.heap.NoLimit := let ⟨ht, m, hm, e⟩ := d.lim; ⟨m, Ns.top k hm ht, e⟩
  have hcd : s.heap.CodeRec fd.code fd.qualname := let ⟨c, o, vs, t, e, hc, ho, r⟩ := d.code; ⟨c, o, vs, t, e, k.top _ _ ho hc, r⟩
  refine (codeAny_call_def rm.lt (k.top _ _ ho d.ne) hd hlim hcd d.body (BindsTo.of_eq (hbind xs hxl)) hcell (fun x hx => hloc x.1 (List.of_mem_zip hx).1) (fun h₀ hns hkp => ?_) hco hgen hk)
  have gr : Grow s { s with heap := h₀, toks := s.toks + (names.zip xs).length } := ⟨hkp, rfl, rfl⟩
  obtain ⟨k₀, g₀⟩ := k.add gr (a := s.heap.objs.size) (c := .loc (callEnv fd s.heap.objs.size a) (names.zip vs))
    ⟨rfl, ⟨_, hns, fun x v hx => by
      obtain ⟨y, hy, ry⟩ := lookup_zip_rev hnd r hx
      have hm : x ∈ names := by
        obtain ⟨p, hp⟩ : ∃ p, p ∈ names.zip vs ∧ p.1 = x := by
          have := mem_of_lookup hx
          exact ⟨_, this, rfl⟩
        exact hp.2 ▸ (List.of_mem_zip hp.1).1
      exact .inl ⟨hloc x hm, y, hy, ry.keep gr.tup⟩⟩, fun c hc => by rw [own] at hc; cases hc⟩
    (fun b hb => by
      simp only [foot, own, List.mem_cons, List.not_mem_nil, or_false] at hb
      subst hb; exact get?_end _) (by simp [foot, own])
  refine wpAny_mono ((h s.heap.objs.size).run _ k₀) ?_ fun _ _ e => e.elim
  refine fun f s' p₀ => p₀.stE fun fl ℓ' H' hh₀ rf k' g' => ?_
  obtain ⟨H'', hs, hK⟩ := hh₀
  obtain ⟨k₂, g₂⟩ := k'.drop (C' := H'') (hs.trans (List.sublist_cons_self _ _))
  refine ⟨_, rfl, retV fl, H'', hK, ?_, k₂, (g₀.trans g').trans g₂⟩
  cases fl with
  | next => cases rf; rfl
  | brk => cases rf; rfl
  | cont => cases rf; rfl
  | ret v => obtain ⟨x, rfl, rx⟩ := rf; exact rx
theorem Call_def {n : Nat} {C : Cs} {a : Addr} {fd : FuncData} {body : List Stmt} {names : List Str} {vs : List V} {ℓ₀ : Lo} {K} (d : DefAt T a fd body) (rm : Rm A (n + 1))
    (hbind : ∀ xs, xs.length = vs.length → bindArgs fd ⟨xs, []⟩ = pure (names.zip xs)) (hnd : names.Nodup) (hlen : names.length = vs.length)
    (hcell : ∀ x ∈ fd.scope.names, x.2 ≠ .cell) (hloc : ∀ x ∈ names, fd.scope.names.lookup x = some .local)
    (h : ∀ L, Exs T (A.deeper (callEnv fd L a)) (callEnv fd L a) ℓ₀ C body (fun fl _ H' => ∃ H'', H''.Sublist H' ∧ K (retV fl) H'')) (hz : names.zip vs = ℓ₀ := by rfl)
    (hco : fd.scope.isCoroutine = false := by rfl) (hgen : fd.scope.isGenerator = false := by rfl) (hk : fd.scope.kind = .function := by rfl) : Call T A C (.ref a) vs K :=
  (CallC_def d rm hbind hnd hlen hcell hloc h hz hco hgen hk).call
end
end Mine
end
section
open PySem PySem.Spec PySem.Calls PyProof.Rows PySem.P
namespace Mine
section
variable {T : TI} {A : Around} {env : Env} {ℓ : Lo} {H : Cs}
theorem RelL.cons_inv {h : Heap} {v : V} {vs : List V} {xs : List Value} (r : RelL h (v :: vs) xs) : ∃ x ys, xs = x :: ys ∧ Rel h v x ∧ RelL h vs ys := by simpa only [RelL] using r
theorem RelL.nil_inv {h : Heap} {xs : List Value} (r : RelL h [] xs) : xs = [] := by simpa only [RelL] using r
theorem Call_len {C : Cs} {i : Nat} {a : Addr} {vs : List V} {K} (hi : C[i]? = some (a, .list vs)) (hn : vs.length ≤ 1000000) (h : K (.int vs.length) C) : Call T A C (.builtin "len") [.ref a] K := by
  refine ⟨fun s xs k r => ?_⟩
  obtain ⟨x, ys, rfl, rx, r⟩ := r.cons_inv
  cases r.nil_inv
  cases rx
  obtain ⟨items, n, hl, r⟩ := cell_at k hi
  have hlen := r.length
  rw [Array.length_toList] at hlen
  refine call_len_list hl.isList (by omega) ?_
  rw [hlen]
  exact ret_growC (v := .int vs.length) h k (Grow.tok s _) ⟨_, rfl⟩
/-- how a method is found -/
noncomputable def GM (T : TI) (C : Cs) (v : V) (name : Str) (f : Value) : Prop :=
  ∀ (A : Around) (pl : Sem Bool) (s : Shared) (x : Value) (Q : Value × List Value → Shared → Prop), Ok T C s → Rel s.heap v x → (∀ s', Grow s s' → Q (f, [x]) s') → wpAny (Mo T) A (getMethod x name pl) Q NoE s
/-- a name of the object itself that is called -/
noncomputable def GA (T : TI) (C : Cs) (v : V) (name : Str) (f : Value) : Prop :=
  ∀ (A : Around) (pl : Sem Bool) (s : Shared) (x : Value) (Q : Value × List Value → Shared → Prop), Ok T C s → Rel s.heap v x → (∀ s', Grow s s' → Q (f, []) s') → wpAny (Mo T) A (getMethod x name pl) Q NoE s
theorem Ev_method {o : Expr} {name : Str} {apos pos : Pos} {args : List Expr} {pl : Sem Bool} {K}
    (h : Ev T A env ℓ H o fun v H₁ => ∃ f, GM T (lc env ℓ :: H₁) v name f ∧ ((∃ id, f = .builtin id) ∨ (∃ n, f = .type n) ∨ ∃ a, f = .ref a) ∧ Evs T A env ℓ H₁ pos args fun vs H₂ => Callee T (lc env ℓ :: H₂) f ∧ Call T A (lc env ℓ :: H₂) f (v :: vs) (inH env ℓ K))
    (he : eval (.Call (.Attribute o name apos) args [] pos) env = (do
      let ov ← eval o env
      standAt apos.atName
      let (f, first) ← holding [ov] (getMethod ov name pl)
      callWith pos f first (backTo pos (starEach args env)) (backToKw pos (keywordEach [] env))) := by rfl)
    (hp : (backTo pos (starEach args env)).any (·.1) = false := by rfl) : Ev T A env ℓ H (.Call (.Attribute o name apos) args [] pos) K := by
  refine ⟨fun s k => ?_⟩
  refine PySem.W.methodCall_KW (pl := pl) (wpAny_mono (h.run s k) ?_ fun _ _ e => e) he
  refine fun x s₁ p₀ => p₀.inE fun v H₁ hh₀ r₁ k₁ g₁ => ?_
  obtain ⟨f, hg, hf, hK⟩ := hh₀
  refine hg A pl s₁ x _ k₁ r₁ fun s₂ gr => ?_
  obtain ⟨k₂, g₂⟩ := k₁.grow gr
  exact wp_trans (g₁.trans g₂) (callWith_ok (fv := [v]) k₂ (RelL.one (r₁.keep gr.tup)) hK hf hp)
theorem Ev_attrcall {o : Expr} {name : Str} {apos pos : Pos} {args : List Expr} {pl : Sem Bool} {K}
    (h : Ev T A env ℓ H o fun v H₁ => ∃ f, GA T (lc env ℓ :: H₁) v name f ∧ ((∃ id, f = .builtin id) ∨ (∃ n, f = .type n) ∨ ∃ a, f = .ref a) ∧ Evs T A env ℓ H₁ pos args fun vs H₂ => Callee T (lc env ℓ :: H₂) f ∧ Call T A (lc env ℓ :: H₂) f vs (inH env ℓ K))
    (he : eval (.Call (.Attribute o name apos) args [] pos) env = (do
      let ov ← eval o env
      standAt apos.atName
      let (f, first) ← holding [ov] (getMethod ov name pl)
      callWith pos f first (backTo pos (starEach args env)) (backToKw pos (keywordEach [] env))) := by rfl)
    (hp : (backTo pos (starEach args env)).any (·.1) = false := by rfl) : Ev T A env ℓ H (.Call (.Attribute o name apos) args [] pos) K := by
  refine ⟨fun s k => ?_⟩
  refine PySem.W.methodCall_KW (pl := pl) (wpAny_mono (h.run s k) ?_ fun _ _ e => e) he
  refine fun x s₁ p₀ => p₀.inE fun v H₁ hh₀ r₁ k₁ g₁ => ?_
  obtain ⟨f, hg, hf, hK⟩ := hh₀
  refine hg A pl s₁ x _ k₁ r₁ fun s₂ gr => ?_
  obtain ⟨k₂, g₂⟩ := k₁.grow gr
  exact wp_trans (g₁.trans g₂) (callWith_ok (fv := []) k₂ rfl hK hf hp)
theorem GM_list {C : Cs} {i : Nat} {a : Addr} {vs : List V} {name : Str} {id : String} (hi : C[i]? = some (a, .list vs)) (slot : Slot "list" name id) (hty : typeOf (.builtin id) = pure (.type "method_descriptor")) : GM T C (.ref a) name (.builtin id) := by
  rintro A pl s _ Q k rfl h
  obtain ⟨items, n, hl, r⟩ := cell_at k hi
  exact getMethod_builtin (T := "list") ⟨_, hl, rfl⟩ F.plainAttrs_list slot hty (fun b e => by cases e; exact ⟨_, hl, rfl⟩) (h s (Grow.refl s))
theorem GM_str {C : Cs} {x : Str} {name : Str} {id : String} (slot : Slot "str" name id) (hty : typeOf (.builtin id) = pure (.type "method_descriptor")) : GM T C (.str x) name (.builtin id) := by
  rintro A pl s _ Q k ⟨t, rfl⟩ h
  exact getMethod_builtin (T := "str") (typeIs_str _ _ _) F.plainAttrs_str slot hty (fun b e => by cases e) (h s (Grow.refl s))
/-- xs.append(v) -/
theorem Call_append {C : Cs} {i : Nat} {a : Addr} {vs : List V} {v : V} {K} (hi : C[i]? = some (a, .list vs)) (hn : vs.length ≤ 1000000) (h : K .none (C.set i (a, .list (vs ++ [v])))) : Call T A C (.builtin "list.append") [.ref a, v] K := by
  refine ⟨fun s xs k r => ?_⟩
  obtain ⟨x, ys, rfl, rx, r⟩ := r.cons_inv
  obtain ⟨y, zs, rfl, ry, r⟩ := r.cons_inv
  cases r.nil_inv
  cases rx
  obtain ⟨items, n, hl, r⟩ := cell_at k hi
  have hlen := r.length
  rw [Array.length_toList] at hlen
  refine call_meets F.slot_list_append ⟨_, hl, rfl⟩ F.entry_list_append (F.args_list_append_2 _ _) (PySem.list_append a items n y (by rw [sizeLine_eq]; omega)) ⟨hl, ?_⟩
  obtain ⟨k₂, g₂⟩ := list_upd (vs' := vs ++ [v]) (f := fun xs => xs.push y) (t := s.toks) k hi hl (fun tk => by simpa using (r.keep tk).append (RelL.one (ry.keep tk)))
  exact ⟨.none, _, h, rfl, k₂, g₂⟩
/-- xs.pop() -/
theorem Call_pop {C : Cs} {i : Nat} {a : Addr} {vs : List V} {v : V} {K} (hi : C[i]? = some (a, .list (vs ++ [v]))) (hn : vs.length ≤ 1000000) (h : K v (C.set i (a, .list vs))) : Call T A C (.builtin "list.pop") [.ref a] K := by
  refine ⟨fun s xs k r => ?_⟩
  obtain ⟨x, ys, rfl, rx, r⟩ := r.cons_inv
  cases r.nil_inv
  cases rx
  obtain ⟨items, n, hl, r⟩ := cell_at k hi
  have hlen := r.length
  rw [Array.length_toList] at hlen
  simp only [List.length_append, List.length_cons, List.length_nil] at hlen
  obtain ⟨y, hy, ry⟩ := r.get (n := vs.length) (v := v) (by simp)
  refine call_meets F.slot_list_pop ⟨_, hl, rfl⟩ F.entry_list_pop (F.args_list_pop_1 _) (MeetsSeq.list_pop_last a items n y (by rw [show items.size - 1 = vs.length by omega]; simpa using hy) (by rw [sizeLine_eq]; omega)) ⟨hl, ?_⟩
  obtain ⟨k₂, g₂⟩ := list_upd (vs' := vs) (f := fun xs => xs.eraseIdxIfInBounds (items.size - 1)) (t := s.toks) k hi hl (fun tk => by
    have q := (r.keep tk).take vs.length
    rw [List.take_left] at q
    have e : (items.eraseIdxIfInBounds (items.size - 1)).toList = items.toList.take vs.length := by
      have : items.size - 1 < items.size := by omega
      simp only [Array.eraseIdxIfInBounds, this, dif_pos, Array.toList_eraseIdx]
      rw [show items.size - 1 = vs.length by omega, List.eraseIdx_eq_take_drop_succ, List.drop_eq_nil_of_le (by simp; omega), List.append_nil]
    rw [e]; exact q)
  exact ⟨v, _, h, ry.keep (g₂.tup k), k₂, g₂⟩
end
end Mine
end
section
open PySem PySem.Spec PySem.Calls PyProof.Rows PySem.P
namespace Mine
theorem lk_hit {x : Str} {v : V} {ℓ : Lo} : List.lookup x ((x, v) :: ℓ) = some v := by simp
theorem lk_miss {x y : Str} {v w : V} {ℓ : Lo} (hne : (x == y) = false) (h : List.lookup x ℓ = some v) : List.lookup x ((y, w) :: ℓ) = some v := by rw [List.lookup_cons, hne]; exact h
noncomputable def Sub (ℓ' ℓ : Lo) : Prop := ∀ x v, ℓ'.lookup x = some v → ℓ.lookup x = some v
theorem Sub_nil {ℓ : Lo} : Sub [] ℓ := fun x v h => by simp at h
theorem Sub_cons {ℓ' ℓ : Lo} {x : Str} {v : V} (h : Sub ℓ' ℓ) : Sub ((x, v) :: ℓ') ((x, v) :: ℓ) := fun y w e => by
  rw [List.lookup_cons] at e ⊢
  cases hb : y == x with
  | true => rw [hb] at e; exact e
  | false => rw [hb] at e; exact h y w e
section
variable {T : TI} {A : Around} {env : Env} {ℓ ℓ' : Lo} {H : Cs}
theorem Ok.forget {s : Shared} (k : Ok T (lc env ℓ :: H) s) (hs : Sub ℓ' ℓ) : Ok T (lc env ℓ' :: H) s ∧ Go (lc env ℓ :: H) s.heap (lc env ℓ' :: H) s.heap := by
  obtain ⟨e, ⟨m, hn, hv⟩, hc⟩ := loc_of k
  exact k.upd (i := 0) (c' := .loc env ℓ') rfl (fun b o e _ => e) (fun _ => ⟨e, ⟨m, hn, fun x v hx => hv x v (hs x v hx)⟩, hc⟩) rfl rfl rfl
theorem Wh.forget {test : Expr} {body orelse : List Stmt} {K} (hs : Sub ℓ' ℓ) (h : Wh T A env ℓ' H test body orelse K) : Wh T A env ℓ H test body orelse K := by
  refine ⟨fun s k => ?_⟩
  obtain ⟨k', g'⟩ := k.forget hs
  exact codeAny_mono (h.run s k') fun r s' ⟨f, e, p⟩ => ⟨f, e, p.trans g'⟩
theorem Exs.forget {sts : List Stmt} {K} (hs : Sub ℓ' ℓ) (h : Exs T A env ℓ' H sts K) : Exs T A env ℓ H sts K := by
  refine ⟨fun s k => ?_⟩
  obtain ⟨k', g'⟩ := k.forget hs
  exact wp_trans g' (h.run s k')
theorem Exs.drop {H' : Cs} {sts : List Stmt} {K} (hs : H'.Sublist H) (h : Exs T A env ℓ H' sts K) : Exs T A env ℓ H sts K := by
  refine ⟨fun s k => ?_⟩
  obtain ⟨k', g'⟩ := k.drop (C' := lc env ℓ :: H') (hs.cons_cons _)
  exact wp_trans g' (h.run s k')
/-- the names of a frame -/
theorem sb {b : Bool} {P Q : Prop} (h1 : b = true → P) (h2 : b = false → Q) : if b = true then P else Q := by
  cases b with
  | true => exact h1 rfl
  | false => exact h2 rfl
theorem sbT {P Q : Prop} (h : P) : if true = true then P else Q := h
theorem sbF {P Q : Prop} (h : Q) : if false = true then P else Q := h
end
noncomputable def fdB : Stmt → List Stmt
  | .FunctionDef _ _ body _ _ _ _ _ _ _ => body
  | _ => []
noncomputable def fdOf (q : Str) (pm cd : Value) : Stmt → FuncData
  | .FunctionDef name args body _ _ _ scope _ _ _ => { name, qualname := q, params := args, body := .stmts body, scope, globals := mainGlobals, closure := [], defaults := .none, kwdefaults := .none, doc := .none, pyModule := pm, code := cd, builtins := builtinsNs }
  | _ => default
noncomputable def stAt (p : Program) (i : Nat) : Stmt := p.main.body.getD i (.Pass ⟨0, 0, 0, 0⟩)
end Mine
namespace Mine
theorem exu {x : Str} {v : V} {ℓ ℓ' : Lo} {K : Lo → Prop} (u : Upd x v ℓ ℓ') (h : K ℓ') : ∃ ℓ', Upd x v ℓ ℓ' ∧ K ℓ' := ⟨ℓ', u, h⟩
end Mine
namespace Mine
theorem rsh1 {p : Nat} (h : 0 < p) : ((p : Int) - 1).fdiv (2 ^ (1 : Int).toNat) = (((p - 1) / 2 : Nat) : Int) := by
  rw [fdiv_two]; omega
end Mine
namespace Mine
theorem Wh_ind {T : TI} {A : Around} {env : Env} {test : Expr} {body orelse : List Stmt} {K} {ι : Type} (I : ι → Lo → Cs → Prop) (m : ι → Nat)
    (step : ∀ i ℓ H, I i ℓ H → (∀ j ℓ' H', m j < m i → I j ℓ' H' → Wh T A env ℓ' H' test body orelse K) → Wh T A env ℓ H test body orelse K) (i : ι) {ℓ : Lo} {H : Cs} (h : I i ℓ H) : Wh T A env ℓ H test body orelse K := by
  have key : ∀ n i ℓ H, m i = n → I i ℓ H → Wh T A env ℓ H test body orelse K := by
    intro n
    induction n using Nat.strongRecOn with
    | ind n ih =>
      intro i ℓ H hn hI
      exact step i ℓ H hI fun j ℓ' H' hj hI' => ih (m j) (hn ▸ hj) j ℓ' H' rfl hI'
  exact key _ i ℓ H rfl h
end Mine
end
section
open PySem PySem.Spec PySem.Calls PyProof.Rows PySem.P
namespace Mine
theorem Ok.lose {T : TI} {C : Cs} {s s' : Shared} {i : Nat} {a : Addr} {c : Cell} (k : Ok T C s) (hi : C[i]? = some (a, c)) (kp : ∀ b o, s.heap.get? b = some o → b ∉ foot a c → s'.heap.get? b = some o) (hg : s'.gens = s.gens) (ho : s'.os = s.os) :
    Ok T (C.eraseIdx i) s' ∧ Go C s.heap (C.eraseIdx i) s'.heap := by
  obtain ⟨p, _⟩ := set_perm (y := (a, c)) hi
  have k₁ : Ok T ([(a, c)] ++ C.eraseIdx i) s := k.perm p
  have fe : foots [(a, c)] = foot a c := by simp [foots]
  have g : Go [(a, c)] s.heap [] s'.heap := ⟨fun b o e hb => kp b o e (by rw [fe] at hb; exact hb), fun b hb => nomatch hb⟩
  have k₂ : Ok T [] s' := k₁.left.mk' g (fun x hx => nomatch hx) List.nodup_nil hg ho
  obtain ⟨k₃, g₃⟩ := k₁.frame k₂ g
  exact ⟨k₃, g₃.permL p.symm⟩
noncomputable def RelO (h : Heap) : Option V → Option Value → Prop
  | .none, x => x = .none
  | some v, x => ∃ y, x = some y ∧ Rel h v y
/-- the next item of an iterator, for a loop's target -/
structure Nt (T : TI) (A : Around) (C : Cs) (target : Expr) (it : Value) (K : Option V → Cs → Prop) : Prop where
  run : ∀ s, Ok T C s → wpAny (Mo T) A (pyNext it) (fun o s₁ => match o with
    | .none => PostG T C s.heap RelO K .none s₁
    | some x => wpAny (Mo T) A (letOwnedTupleGo target it x) (fun _ s₂ => PostG T C s.heap RelO K (some x) s₂) NoE s₁) NoE s
/-- a target bound to a value -/
structure Asn (T : TI) (A : Around) (env : Env) (ℓ : Lo) (H : Cs) (target : Expr) (v : V) (K : Lo → Cs → Prop) : Prop where
  run : ∀ s x, Ok T (lc env ℓ :: H) s → Rel s.heap v x → wpAny (Mo T) A (assign target env x) (fun _ s' => ∃ ℓ' H', K ℓ' H' ∧ Ok T (lc env ℓ' :: H') s' ∧ Go (lc env ℓ :: H) s.heap (lc env ℓ' :: H') s'.heap) NoE s
structure Asns (T : TI) (A : Around) (env : Env) (ℓ : Lo) (H : Cs) (ts : List Expr) (vs : List V) (K : Lo → Cs → Prop) : Prop where
  run : ∀ s xs, Ok T (lc env ℓ :: H) s → RelL s.heap vs xs → wpAny (Mo T) A (assignInOrder ((assignEach ts env).map (·.2)) xs) (fun _ s' => ∃ ℓ' H', K ℓ' H' ∧ Ok T (lc env ℓ' :: H') s' ∧ Go (lc env ℓ :: H) s.heap (lc env ℓ' :: H') s'.heap) NoE s
structure Fo (T : TI) (A : Around) (env : Env) (ℓ : Lo) (H : Cs) (target : Expr) (it : Value) (body orelse : List Stmt) (K : Fl → Lo → Cs → Prop) : Prop where
  run : ∀ s, Ok T (lc env ℓ :: H) s → codeAny (Mo T) A (.forLoop target it body orelse env) (fun r s' => ∃ f, r = .ok f ∧ PostG T (lc env ℓ :: H) s.heap RelF (fun f C' => ∃ ℓ' H', C' = lc env ℓ' :: H' ∧ K f ℓ' H') f s') s
/-- an iterator made of a value -/
structure Itr (T : TI) (A : Around) (C : Cs) (v : V) (K : Addr → Cs → Prop) : Prop where
  run : ∀ s x, Ok T C s → Rel s.heap v x → wpAny (Mo T) A (pyIter x) (fun y s' => ∃ a C', K a C' ∧ y = .ref a ∧ Ok T C' s' ∧ Go C s.heap C' s'.heap) NoE s
noncomputable def foK (T : TI) (A : Around) (env : Env) (target : Expr) (it : Value) (body orelse : List Stmt) (K : Fl → Lo → Cs → Prop) : Fl → Lo → Cs → Prop
  | .next, ℓ, H => Fo T A env ℓ H target it body orelse K
  | .cont, ℓ, H => Fo T A env ℓ H target it body orelse K
  | .brk, ℓ, H => K .next ℓ H
  | .ret v, ℓ, H => K (.ret v) ℓ H
section
variable {T : TI} {A : Around} {env : Env} {ℓ : Lo} {H : Cs}
noncomputable def ntK (T : TI) (A : Around) (env : Env) (ℓ : Lo) (target : Expr) (it : Value) (body orelse : List Stmt) (K : Fl → Lo → Cs → Prop) : Option V → Cs → Prop
  | .none, H => Exs T A env ℓ H orelse K
  | some v, H => Asn T A env ℓ H target v fun ℓ₂ H₂ => Exs T A env ℓ₂ H₂ body (foK T A env target it body orelse K)
theorem Fo_step {target : Expr} {it : Value} {body orelse : List Stmt} {K} (h : Nt T A (lc env ℓ :: H) target it (inH env ℓ (ntK T A env ℓ target it body orelse K))) : Fo T A env ℓ H target it body orelse K := by
  refine ⟨fun s k => ?_⟩
  refine codeAny_of_tree ?_
  show wpAny _ A ((forTurn target it body orelse env).onRaise (fun x => do noteFrame x env; theTreesLotGoes x)) _ _ s
  refine wpAny_noted (wpAny_mono (E := NoE) ?_ (fun _ _ q => q) fun _ _ e => e.elim)
  unfold forTurn
  refine wpAny_bind (wpAny_standAt (wpAny_bind (wpAny_onRaise (wpAny_mono (h.run s k) (fun o s₁ p => ?_) fun _ _ e => e.elim))))
  cases o with
  | none =>
    obtain ⟨v, _, ⟨H₁, rfl, hK⟩, r₁, k₁, g₁⟩ := p
    cases v with
    | some v => obtain ⟨y, e, _⟩ := r₁; cases e
    | none =>
      refine wpAny_pure ⟨rfl, codeAny_of_tree ?_⟩
      show wpAny _ A (do return Fin.done (← (execs orelse env).onRaise (fun x => do noteFrame x env; theTreesLotGoes x))) _ _ s₁
      refine wpAny_bind (wpAny_noted (wpAny_mono (E := NoE) (Exs.run hK s₁ k₁) (fun f s₂ q => ?_) fun _ _ e => e.elim))
      exact wpAny_pure ⟨f, rfl, q.trans g₁⟩
  | some x =>
    refine wpAny_bind (wpAny_mono p (fun _ s₂ q => ?_) fun _ _ e => e)
    obtain ⟨v, _, ⟨H₁, rfl, hK⟩, r₁, k₁, g₁⟩ := q
    cases v with
    | none => cases r₁
    | some v =>
      obtain ⟨y, e, ry⟩ := r₁
      cases e
      refine wpAny_bind (wpAny_mono (Asn.run hK s₂ x k₁ ry) ?_ fun _ _ e => e)
      rintro _ s₃ ⟨ℓ₂, H₂, hK₂, k₂, g₂⟩
      refine wpAny_bind (wpAny_mono (hK₂.run s₃ k₂) ?_ fun _ _ e => e)
      refine fun f s₄ p₀ => p₀.stE fun fl ℓ₃ H₃ hK₃ r₃ k₃ g₃ => ?_
      have g := (g₁.trans g₂).trans g₃
      cases fl with
      | next => cases r₃; exact wpAny_pure ⟨rfl, codeAny_mono (Fo.run hK₃ s₄ k₃) fun r s' ⟨f, e, p⟩ => ⟨f, e, p.trans g⟩⟩
      | cont => cases r₃; exact wpAny_pure ⟨rfl, codeAny_mono (Fo.run hK₃ s₄ k₃) fun r s' ⟨f, e, p⟩ => ⟨f, e, p.trans g⟩⟩
      | brk => cases r₃; exact wpAny_pure ⟨_, rfl, .next, _, ⟨ℓ₃, H₃, rfl, hK₃⟩, rfl, k₃, g⟩
      | ret v => obtain ⟨z, rfl, r⟩ := r₃; exact wpAny_pure ⟨_, rfl, .ret v, _, ⟨ℓ₃, H₃, rfl, hK₃⟩, ⟨z, rfl, r⟩, k₃, g⟩
theorem Ex_for {target iter : Expr} {body orelse : List Stmt} {pos : Pos} {K} (h : Ev T A env ℓ H iter fun v H₁ => Itr T A (lc env ℓ :: H₁) v fun a C' => ∃ H₂, C' = lc env ℓ :: H₂ ∧ Fo T A env ℓ H₂ target (.ref a) body orelse K)
    (hf : ∀ x, foldedSetIterable iter env x = pure x := by intro _; rfl) : Ex T A env ℓ H (.For target iter body orelse pos) K := by
  refine ⟨fun s k => ?_⟩
  rw [arm_exec_For]
  refine wpAny_bind (wpAny_standAt (wpAny_bind (wpAny_mono (h.run s k) ?_ fun _ _ e => e)))
  refine fun x s₁ p₀ => p₀.inE fun v H₁ hK r₁ k₁ g₁ => ?_
  rw [hf]
  refine wpAny_bind (wpAny_pure (wpAny_bind (wpAny_standAt (wpAny_bind (wpAny_holding (wpAny_mono (hK.run s₁ x k₁ r₁) ?_ fun _ _ e => e))))))
  rintro _ s₂ ⟨a, _, ⟨H₂, rfl, hK₂⟩, rfl, k₂, g₂⟩
  exact wpAny_runOwn (codeAny_mono (hK₂.run s₂ k₂) fun r s' ⟨f, e, p⟩ => by subst e; exact (p.trans g₂).trans g₁)
theorem Fo_ind {target : Expr} {it : Value} {body orelse : List Stmt} {K} {ι : Type} (I : ι → Lo → Cs → Prop) (m : ι → Nat)
    (step : ∀ i ℓ H, I i ℓ H → (∀ j ℓ' H', m j < m i → I j ℓ' H' → Fo T A env ℓ' H' target it body orelse K) → Fo T A env ℓ H target it body orelse K) (i : ι) {ℓ : Lo} {H : Cs} (h : I i ℓ H) : Fo T A env ℓ H target it body orelse K := by
  have key : ∀ n i ℓ H, m i = n → I i ℓ H → Fo T A env ℓ H target it body orelse K := by
    intro n
    induction n using Nat.strongRecOn with
    | ind n ih =>
      intro i ℓ H hn hI
      exact step i ℓ H hI fun j ℓ' H' hj hI' => ih (m j) (hn ▸ hj) j ℓ' H' rfl hI'
  exact key _ i ℓ H rfl h
theorem Fo.forget {ℓ' : Lo} {target : Expr} {it : Value} {body orelse : List Stmt} {K} (hs : Sub ℓ' ℓ) (h : Fo T A env ℓ' H target it body orelse K) : Fo T A env ℓ H target it body orelse K := by
  refine ⟨fun s k => ?_⟩
  obtain ⟨k', g'⟩ := k.forget hs
  exact codeAny_mono (h.run s k') fun r s' ⟨f, e, p⟩ => ⟨f, e, p.trans g'⟩
theorem Asn_name {x : Str} {pos : Pos} {v : V} {K} (h : ∃ ℓ', Upd x v ℓ ℓ' ∧ K ℓ' H) (hl : env.kindOf x = some .local := by kernel_rfl) (hk' : env.scope.kind = .function := by rfl) : Asn T A env ℓ H (.Name x pos) v K := by
  obtain ⟨ℓ', u, hK⟩ := h
  refine ⟨fun s y k r => ?_⟩
  rw [arm_assign_Name]
  exact wpAny_bind (wpAny_standAt (wpAny_bindName (store_ok u k r hk' (.inl hl) fun s' k' g' => ⟨ℓ', H, hK, k', g'⟩)))
theorem Asns_nil {K} (h : K ℓ H) : Asns T A env ℓ H [] [] K := ⟨fun s xs k r => wpAny_pure ⟨ℓ, H, h, k, Go.refl _ _⟩⟩
theorem Asns_cons {e : Expr} {es : List Expr} {v : V} {vs : List V} {K} (h : Asn T A env ℓ H e v fun ℓ₁ H₁ => Asns T A env ℓ₁ H₁ es vs K) (he : assignEach (e :: es) env = (false, assign e env) :: assignEach es env := by rfl) : Asns T A env ℓ H (e :: es) (v :: vs) K := by
  refine ⟨fun s xs k r => ?_⟩
  obtain ⟨x, ys, rfl, rx, ry⟩ := r.cons_inv
  rw [he]
  show wpAny _ A (do holding ys (assign e env x); assignInOrder ((assignEach es env).map (·.2)) ys) _ _ s
  refine wpAny_bind (wpAny_holding (wpAny_mono (h.run s x k rx) ?_ fun _ _ e => e))
  rintro _ s₁ ⟨ℓ₁, H₁, hK, k₁, g₁⟩
  refine wpAny_mono (hK.run s₁ ys k₁ (ry.keep (g₁.tup k))) ?_ fun _ _ e => e
  rintro _ s₂ ⟨ℓ₂, H₂, hK₂, k₂, g₂⟩
  exact ⟨ℓ₂, H₂, hK₂, k₂, g₁.trans g₂⟩
theorem IsT.isTuple {h : Heap} {t : Addr} {items : Array Value} {n : Nat} (x : IsT h t items n) : h.IsTuple t items := ⟨_, x, rfl, n, rfl⟩
theorem Asn_tuple {n : Nat} {es : List Expr} {kd : Nat} {pos : Pos} {vs : List V} {K} (rm : Rm A n) (h : Asns T A env ℓ H es vs K) (hn : (assignEach es env).length = vs.length := by rfl) (hstar : (assignEach es env).findIdx? (·.1) = none := by rfl) : Asn T A env ℓ H (.Tuple es kd pos) (.tup vs) K := by
  refine ⟨fun s x k r => ?_⟩
  obtain ⟨t, items, n, rfl, ht, r⟩ := r
  have hl := r.length
  rw [Array.length_toList] at hl
  refine wpAny_assign_Tuple rm.handled (IsT.isTuple ht) (hn.trans hl.symm) hstar fun h' hx => ?_
  have gr : Grow s { s with heap := h' } := ⟨fun b o e => hx b o (Nat.ne_of_lt (Heap.lt_size e)) e, rfl, rfl⟩
  obtain ⟨k', g'⟩ := k.grow gr
  refine wpAny_mono (h.run _ _ k' (r.keep gr.tup)) ?_ fun _ _ e => e
  rintro _ s₂ ⟨ℓ₂, H₂, hK₂, k₂, g₂⟩
  exact ⟨ℓ₂, H₂, hK₂, k₂, g'.trans g₂⟩
end
section
variable {T : TI} {A : Around} {C : Cs}
theorem Nt_range {i : Nat} {a : Addr} {x left step : Int} {target : Expr} {K} (hi : C[i]? = some (a, .rit x left step)) (hl : 0 < left) (h : K (some (.int x)) (C.set i (a, .rit (x + step) (left - 1) step)))
    (ht : ∀ y, letOwnedTupleGo target (.ref a) y = pure () := by intro _; rfl) : Nt T A C target (.ref a) K := by
  refine ⟨fun s k => ?_⟩
  have c := cell_at k hi
  refine wpAny_pyNext_range_item c hl fun h' c' hs => ?_
  show wpAny _ _ (letOwnedTupleGo target (.ref a) _) _ _ _
  rw [ht]
  obtain ⟨k', g'⟩ := k.upd (c' := .rit (x + step) (left - 1) step) (s' := { s with heap := h', toks := s.toks + 1 }) hi (fun b o e hb => (hs.2 b fun z => hb (z ▸ .head _)).trans e) (fun _ => c') rfl rfl rfl
  exact wpAny_pure ⟨_, _, h, ⟨_, rfl, _, rfl⟩, k', g'⟩
theorem Nt_range_end {n i : Nat} {a : Addr} {x left step : Int} {target : Expr} {K} (rm : Rm A n) (hi : C[i]? = some (a, .rit x left step)) (hl : left ≤ 0) (h : K .none (C.eraseIdx i)) : Nt T A C target (.ref a) K := by
  refine ⟨fun s k => ?_⟩
  refine wpAny_pyNext_range_end rm.handled (cell_at k hi) hl fun h' hs => ?_
  obtain ⟨k', g'⟩ := k.lose (s' := { s with heap := h' }) hi (fun b o e hb => hs b o (fun z => hb (z ▸ .head _)) e) rfl rfl
  exact ⟨_, _, h, rfl, k', g'⟩
theorem Nt_list {i j n : Nat} {a l : Addr} {vs : List V} {v : V} {target : Expr} {K} (hi : C[i]? = some (a, .lit l n)) (hj : C[j]? = some (l, .list vs)) (hv : vs[n]? = some v) (h : K (some v) (C.set i (a, .lit l (n + 1)))) : Nt T A C target (.ref a) K := by
  refine ⟨fun s k => ?_⟩
  have c := cell_at k hi
  obtain ⟨items, nn, hl, r⟩ := cell_at k hj
  obtain ⟨x, hx, rx⟩ := r.get hv
  refine wpAny_pyNext_list_item c hl.isList (by simpa using hx) fun h' c' hs => ?_
  obtain ⟨k', g'⟩ := k.upd (c' := .lit l (n + 1)) (s' := { s with heap := h' }) hi (fun b o e hb => (hs.2 b fun z => hb (z ▸ .head _)).trans e) (fun _ => c') rfl rfl rfl
  have fin : PostG T C s.heap RelO K (some x) { s with heap := h' } := ⟨_, _, h, ⟨_, rfl, rx.keep (g'.tup k)⟩, k', g'⟩
  show wpAny _ _ (letOwnedTupleGo target (.ref a) x) _ _ _
  unfold letOwnedTupleGo
  obtain ⟨o, ho, hc, hd⟩ := c'
  split
  · split
    · refine wpAny_bind (wpAny_load (by rename_i e; cases e; exact ho) ?_)
      rw [hc, hd]
      dsimp only
      rw [if_neg (by simp)]
      exact wpAny_pure fin
    · exact wpAny_pure fin
  · split
    · refine wpAny_bind (wpAny_load (by rename_i e; cases e; exact ho) ?_)
      rw [hc, hd]
      dsimp only
      rw [if_neg (by simp)]
      exact wpAny_pure fin
    · exact wpAny_pure fin
  · exact wpAny_pure fin
theorem Nt_list_end {m i j n : Nat} {a l : Addr} {vs : List V} {target : Expr} {K} (rm : Rm A m) (hi : C[i]? = some (a, .lit l n)) (hj : C[j]? = some (l, .list vs)) (hv : vs[n]? = none) (h : K .none (C.eraseIdx i)) : Nt T A C target (.ref a) K := by
  refine ⟨fun s k => ?_⟩
  obtain ⟨items, nn, hl, r⟩ := cell_at k hj
  have hlen := r.length
  rw [Array.length_toList] at hlen
  refine wpAny_pyNext_list_end rm.handled (cell_at k hi) hl.isList (by simp at hv ⊢; omega) fun h' hs => ?_
  obtain ⟨k', g'⟩ := k.lose (s' := { s with heap := h' }) hi (fun b o e hb => hs b o (fun z => hb (z ▸ .head _)) e) rfl rfl
  exact ⟨_, _, h, rfl, k', g'⟩
theorem Itr_list {j : Nat} {l : Addr} {vs : List V} {K} (hj : C[j]? = some (l, .list vs)) (h : ∀ a, K a ((a, .lit l 0) :: C)) : Itr T A C (.ref l) K := by
  refine ⟨fun s x k r => ?_⟩
  cases r
  obtain ⟨items, nn, hl, r⟩ := cell_at k hj
  refine wpAny_pyIter_list hl.isList ?_
  obtain ⟨k', g'⟩ := k.add (Grow.push s { cls := .type "list_iterator", data := .fields #[.ref l, .int 0 0] } s.toks) (a := s.heap.objs.size) (c := .lit l 0) ⟨_, Heap.get?_push_size _ rfl, rfl, rfl⟩ (fun b hb => by cases List.mem_singleton.mp hb; exact get?_end _) (by simp [foot])
  exact ⟨_, _, h _, rfl, k', g'⟩
end
end Mine
end
section
open PySem PySem.Spec PySem.Calls PyProof.Rows PySem.P
namespace Mine
/-- the one class of the text -/
structure Cls (T : TI) (C N : Addr) (mN : Str → Option Value) : Prop where
  at' : ClsAt T.h₁ C N mN
  nC : C ≠ T.tb
  nN : N ≠ T.tb
  ga : mN "__getattribute__" = none
  gh : mN "__getattr__" = none
  sa : mN "__setattr__" = none
theorem Cls.now {T : TI} {C N : Addr} {mN : Str → Option Value} (c : Cls T C N mN) {Cc : Cs} {s : Shared} (k : Ok T Cc s) : ClsAt s.heap C N mN := by
  obtain ⟨nm, q, bs, sn, sub, col, dd, k0, k1, k2, k3, k5, e⟩ := c.at'.obj
  exact ⟨⟨nm, q, bs, sn, sub, col, dd, k0, k1, k2, k3, k5, k.top _ _ e c.nC⟩, Ns.top k c.at'.ns c.nN⟩
theorem InstIs.inst {h : Heap} {a C d : Addr} {at' : Lo} (x : InstIs h a C d at') : ∃ mA, h.Inst a C mA ∧ AttrsAre h at' mA := by
  obtain ⟨o, mA, ho, hc, hn, hd, hne, hns, ha⟩ := x
  exact ⟨mA, ⟨o, ho, hc, hn, .inr ⟨d, hd, hne, hns⟩⟩, ha⟩
section
variable {T : TI} {A : Around} {env : Env} {ℓ : Lo} {H : Cs} {Cl N : Addr} {mN : Str → Option Value}
theorem AttrsAre.some {h : Heap} {at' : Lo} {mA : Str → Option Value} (z : AttrsAre h at' mA) {x : Str} {v : V} (e : at'.lookup x = some v) : ∃ y, mA x = some y ∧ Rel h v y := by
  have q := z x
  rw [e] at q; exact q
theorem AttrsAre.none {h : Heap} {at' : Lo} {mA : Str → Option Value} (z : AttrsAre h at' mA) {x : Str} (e : at'.lookup x = none) : mA x = none := by
  have q := z x
  rw [e] at q; exact q
theorem handed_of {h : Heap} {v : V} {y : Value} (r : Rel h v y) (hv : ∀ id, v ≠ .bi id) : handedOut y = pure y := by
  cases v <;> simp only [Rel] at r
  · subst r; rfl
  · subst r; rfl
  · obtain ⟨t, rfl⟩ := r; rfl
  · obtain ⟨t, rfl⟩ := r; rfl
  · obtain ⟨a, it, n, rfl, _⟩ := r; rfl
  · subst r; rfl
  · subst r; rfl
  · exact absurd rfl (hv _)
/-- x.name -/
theorem Ev_attr {o : Expr} {name : Str} {pos : Pos} {K} (c : Cls T Cl N mN) (hna : mN name = none) (hB : typeLookup (.type "object") name = pure none)
    (h : Ev T A env ℓ H o fun v H₁ => ∃ (a : Addr) (i : Nat) (d : Addr) (at' : Lo) (w : V), v = .ref a ∧ H₁[i]? = some (a, Cell.inst Cl d at') ∧ at'.lookup name = some w ∧ (∀ id, w ≠ .bi id) ∧ K w H₁)
    (he : eval (.Attribute o name pos) env = (do
      let o' ← eval o env
      standAt pos.atName
      let r ← holding [o'] (getAttr o' name true)
      letTemporaryGo o o' r
      pure r) := by rfl) : Ev T A env ℓ H (.Attribute o name pos) K := by
  refine ⟨fun s k => ?_⟩
  refine Attribute_any_ (wpAny_mono (h.run s k) ?_ fun _ _ e => e) he
  refine fun _ s₁ p₀ => p₀.inE fun v H₁ hh₀ r₁ k₁ g₁ => ?_
  obtain ⟨a, i, d, at', w, rfl, hi, hw, hb, hK⟩ := hh₀
  cases r₁
  have hi' : (lc env ℓ :: H₁)[i + 1]? = some (a, Cell.inst Cl d at') := by simpa using hi
  obtain ⟨mA, I, ha⟩ := InstIs.inst (cell_at k₁ hi')
  obtain ⟨y, hy, ry⟩ := ha.some hw
  obtain ⟨nm, q, bs, sn, sub, col, dd, k0, k1, k2, k3, k5, hC⟩ := (c.now k₁).obj
  have gr := Grow.tok s₁ (s₁.toks + 1)
  obtain ⟨k₂, g₂⟩ := k₁.grow gr
  obtain ⟨hh, g, dr, t, os⟩ := s₁
  exact load_attr hC (c.now k₁).ns c.ga hna hB I hy (handed_of ry hb) (PostG.inI (v := w) hK ry k₂ (g₁.trans g₂))
/-- x.name(..): a method of the class -/
theorem GM_inst {Cc : Cs} {i : Nat} {a d fn : Addr} {at' : Lo} {name : Str} {o : Obj} {y : Option Value} (c : Cls T Cl N mN) (hi : Cc[i]? = some (a, .inst Cl d at')) (hf : mN name = some (.ref fn)) (ho : T.h₁.get? fn = some o) (hne : fn ≠ T.tb) (hoc : o.cls = .type "function")
    (hB : typeLookup (.type "object") name = pure y) (hno : at'.lookup name = none) : GM T Cc (.ref a) name (.ref fn) := by
  rintro A pl s _ Q k rfl h
  obtain ⟨mA, I, ha⟩ := InstIs.inst (cell_at k hi)
  obtain ⟨nm, q, bs, sn, sub, col, dd, k0, k1, k2, k3, k5, hC⟩ := (c.now k).obj
  have hq := h s (Grow.refl s)
  have hfo := k.top _ _ ho hne
  have hns := (c.now k).ns
  obtain ⟨hh, g, dr, t, os⟩ := s
  exact method_of hC hns c.ga c.gh hf hfo hoc hB I (ha.none hno) hq
/-- a store into an object's names -/
theorem inst_store {C : Cs} {s : Shared} {i : Nat} {a d : Addr} {at' at'' : Lo} {x : Str} {v : V} {y : Value} {Q : Unit → Shared → Prop} (c : Cls T Cl N mN) (k : Ok T C s) (hi : C[i]? = some (a, .inst Cl d at')) (hna : mN x = none) (hB : typeLookup (.type "object") x = pure none)
    (hsz : at'.length ≤ 1000) (u : Upd x v at' at'') (r : Rel s.heap v y) (hCl : T.h₁.get? Cl ≠ none)
    (h : ∀ s', Ok T (C.set i (a, .inst Cl d at'')) s' → Go C s.heap (C.set i (a, .inst Cl d at'')) s'.heap → Q () s') : wpAny (Mo T) A (setAttr (.ref a) x y) Q NoE s := by
  have ci := cell_at k hi
  obtain ⟨o, mA, ho, hc, hn, hd, hne, hns, ha⟩ := id ci
  obtain ⟨nm, q, bs, sn, sub, col, dd, k0, k1, k2, k3, k5, hC⟩ := (c.now k).obj
  have hnsC := (c.now k).ns
  have hxC : a ≠ Cl := by
    rintro rfl
    rcases k.new a (List.mem_flatMap.mpr ⟨_, List.mem_of_getElem? hi, .head _⟩) with z | z
    · exact hCl z
    · exact c.nC z
  have hw : Within mA (at'.map (·.1)) := fun z hz => by
    cases e : at'.lookup z with
    | none => exact absurd (ha.none e) hz
    | some w => exact List.mem_map.mpr ⟨_, mem_of_lookup e, rfl⟩
  obtain ⟨hh, g, dr, t, os⟩ := s
  refine store_attr F.store_object hC hnsC c.sa hna hB hxC ⟨o, ho, hc, hn, .inr ⟨d, hd, hne, hns⟩⟩ (fun h' tk' I' hk hsame => ?_) hw (by rw [List.length_map, sizeLine_eq]; omega)
  obtain ⟨o₁, ho₁, e1, e2, e3, e4⟩ := hsame o ho
  obtain ⟨o₂, ho₂, hc₂, hn₂, hd₂⟩ := I'
  have : o₂ = o₁ := Option.some.inj (ho₂.symm.trans ho₁)
  subst this
  have hdd := e4 d hd
  obtain ⟨k', g'⟩ := k.upd (c' := .inst Cl d at'') (s' := ⟨h', g, dr, tk', os⟩) hi (fun b o' e hb => hk b o' (fun z => hb (z ▸ .head _)) (fun o₀ dx h0 h1 z => by
      rw [ho] at h0; cases h0; rw [hd] at h1; cases h1; exact hb (z ▸ .tail _ (.head _))) e) (fun tk => by
    rcases hd₂ with ⟨z, _⟩ | ⟨d₂, z, zne, zns⟩
    · rw [hdd] at z; cases z
    · rw [hdd] at z; cases z
      refine ⟨o₂, _, ho₂, hc₂, hn₂, hdd, zne, zns, fun w => ?_⟩
      rw [u.look]
      by_cases e : w = x
      · subst e; rw [if_pos rfl]; exact ⟨y, if_pos rfl, r.keep tk⟩
      · rw [if_neg e]
        have q := ha.keep tk w
        cases e' : at'.lookup w with
        | none => rw [e'] at q; simpa [e] using q
        | some v' => rw [e'] at q; obtain ⟨z, hz, rz⟩ := q; exact ⟨z, by simpa [e] using hz, rz⟩) rfl rfl rfl
  exact h _ k' g'
end
end Mine
end
section
open PySem PySem.Spec PySem.Calls PyProof.Rows PySem.P
namespace Mine
section
variable {T : TI} {A : Around} {env : Env} {ℓ : Lo} {H : Cs} {Cl N : Addr} {mN : Str → Option Value}
/-- x.name = v -/
theorem Ex_setattr {o e : Expr} {name : Str} {pos' pos : Pos} {K} (c : Cls T Cl N mN) (hna : mN name = none) (hB : typeLookup (.type "object") name = pure none) (hCl : T.h₁.get? Cl ≠ none)
    (h : Ev T A env ℓ H e fun v H₁ => Ev T A env ℓ H₁ o fun w H₂ => ∃ (a : Addr) (i : Nat) (d : Addr) (at' at'' : Lo), w = .ref a ∧ H₂[i]? = some (a, Cell.inst Cl d at') ∧ at'.length ≤ 1000 ∧ Upd name v at' at'' ∧ K .next ℓ (H₂.set i (a, .inst Cl d at'')))
    (hs : swapsWith e (some (.Attribute o name pos')) pos.line env = pure false := by rfl) : Ex T A env ℓ H (.Assign [.Attribute o name pos'] e pos) K := by
  refine ⟨fun s k => ?_⟩
  refine plainObj_wpAny_Assign_Attribute (wpAny_mono (h.run s k) ?_ fun _ _ e => e) hs
  refine fun y s₁ p₀ => p₀.inE fun v H₁ hK r₁ k₁ g₁ => ?_
  refine wpAny_mono (hK.run s₁ k₁) ?_ fun _ _ e => e
  refine fun _ s₂ p₀ => p₀.inE fun w H₂ hh₀ r₂ k₂ g₂ => ?_
  obtain ⟨a, i, d, at', at'', rfl, hi, hsz, u, hK₂⟩ := hh₀
  cases r₂
  have hi' : (lc env ℓ :: H₂)[i + 1]? = some (a, Cell.inst Cl d at') := by simpa using hi
  exact inst_store c k₂ hi' hna hB hsz u (r₁.keep (g₂.tup k₁)) hCl fun s' k' g' => PostG.stI (v := .next) hK₂ rfl k' ((g₁.trans g₂).trans g')
theorem attr_now {C : Cs} {s : Shared} {i : Nat} {a d : Addr} {at' : Lo} {name : Str} {w : V} {Q : Value → Shared → Prop} {ex : Bool} (c : Cls T Cl N mN) (k : Ok T C s) (hi : C[i]? = some (a, Cell.inst Cl d at')) (hna : mN name = none) (hB : typeLookup (.type "object") name = pure none) (hw : at'.lookup name = some w) (hb : ∀ id, w ≠ .bi id)
    (h : ∀ y, Rel s.heap w y → Q y { s with toks := s.toks + 1 }) : wpAny (Mo T) A (getAttr (.ref a) name ex) Q NoE s := by
  obtain ⟨mA, I, ha⟩ := InstIs.inst (cell_at k hi)
  obtain ⟨y, hy, ry⟩ := ha.some hw
  obtain ⟨nm, q, bs, sn, sub, col, dd, k0, k1, k2, k3, k5, hC⟩ := (c.now k).obj
  have hns := (c.now k).ns
  obtain ⟨hh, g, dr, t, os⟩ := s
  exact load_attr hC hns c.ga hna hB I hy (handed_of ry hb) (h y ry)
/-- x.name += v -/
theorem Ex_augattr {o e : Expr} {name : Str} {op : Operator} {pos' pos : Pos} {K} (c : Cls T Cl N mN) (hna : mN name = none) (hB : typeLookup (.type "object") name = pure none) (hCl : T.h₁.get? Cl ≠ none)
    (h : Ev T A env ℓ H o fun v H₁ => ∃ (a : Addr) (i : Nat) (d : Addr) (at' : Lo) (w : V), v = .ref a ∧ H₁[i]? = some (a, Cell.inst Cl d at') ∧ at'.lookup name = some w ∧ (∀ id, w ≠ .bi id) ∧ at'.length ≤ 1000 ∧
      Ev T A env ℓ H₁ e fun z H₂ => H₂ = H₁ ∧ OpI T A (lc env ℓ :: H₁) op w z fun u C' => C' = lc env ℓ :: H₁ ∧ ∃ at'', Upd name u at' at'' ∧ K .next ℓ (H₁.set i (a, .inst Cl d at''))) : Ex T A env ℓ H (.AugAssign (.Attribute o name pos') op e pos) K := by
  refine ⟨fun s k => ?_⟩
  refine wpAny_AugAssign_AttributeAny (wpAny_mono (h.run s k) ?_ fun _ _ e => e)
  refine fun _ s₁ p₀ => p₀.inE fun v H₁ hh₀ r₁ k₁ g₁ => ?_
  obtain ⟨a, i, d, at', w, rfl, hi, hw, hb, hsz, hK⟩ := hh₀
  cases r₁
  have hi' : (lc env ℓ :: H₁)[i + 1]? = some (a, Cell.inst Cl d at') := by simpa using hi
  refine attr_now c k₁ hi' hna hB hw hb fun y ry => ?_
  obtain ⟨k₂, g₂⟩ := k₁.grow (Grow.tok s₁ (s₁.toks + 1))
  refine wpAny_mono (hK.run _ k₂) ?_ fun _ _ e => e
  refine fun z s₃ p₀ => p₀.inE fun v₃ H₂ hh₀ r₃ k₃ g₃ => ?_
  obtain ⟨rfl, hK₃⟩ := hh₀
  refine wpAny_mono (hK₃.run s₃ y z k₃ (ry.keep (g₃.tup k₂)) r₃) ?_ fun _ _ e => e
  rintro q s₄ ⟨u', _, ⟨rfl, at'', u, hK₄⟩, r₄, k₄, g₄⟩
  exact inst_store c k₄ hi' hna hB hsz u r₄ hCl fun s' k' g' => PostG.stI (v := .next) hK₄ rfl k' ((((g₁.trans g₂).trans g₃).trans g₄).trans g')
set_option maxHeartbeats 1000000 in
/-- a name of the object that is called -/
theorem GA_inst {Cc : Cs} {i : Nat} {a d fn : Addr} {at' : Lo} {name : Str} (c : Cls T Cl N mN) (hi : Cc[i]? = some (a, .inst Cl d at')) (hna : mN name = none) (hB : typeLookup (.type "object") name = pure none) (hw : at'.lookup name = some (.ref fn)) : GA T Cc (.ref a) name (.ref fn) := by
  rintro A pl s _ Q k rfl h
  obtain ⟨mA, I, ha⟩ := InstIs.inst (cell_at k hi)
  obtain ⟨nm, q, bs, sn, sub, col, dd, k0, k1, k2, k3, k5, hC⟩ := (c.now k).obj
  have hns := (c.now k).ns
  have hcan := F.canon_object_ga
  have fin : wpAny (Mo T) A (getAttr (.ref a) name) (fun v s' => Q (v, []) s') NoE s := attr_now c k hi hna hB hw (fun _ e => by cases e) fun y ry => by cases ry; exact h _ (Grow.tok s _)
  obtain ⟨o, hx, hc, hnc, hd⟩ := I
  have hga := c.ga
  have hgh := c.gh
  obtain ⟨hh, g, dr, t, os⟩ := s
  unfold getMethod specialOf
  repeat (first | (with_reducible exact wpAny_bind (wpAny_mono fin (fun v s' hv => wpAny_pure hv) fun _ _ e => e)) | (with_reducible refine wpAny_loadPart_at hx ?_; rw [hc]) | (with_reducible refine wpAny_typeLookup_exc hC hns F.mro_object F.lk_object_ga ?_; rw [hga]) | (with_reducible refine wpAny_typeLookup_exc hC hns F.mro_object F.lk_object_getattr ?_; rw [hgh]) | (with_reducible refine wpAny_typeLookup_exc hC hns F.mro_object hB ?_; rw [hna]) | simp only [hcan, Bool.false_eq_true, if_false] | wp_step)
end
end Mine
end
section
open PySem PySem.Spec PySem.Calls PyProof.Rows PySem.P
namespace Mine
theorem slot_cit_next : Slot "callable_iterator" "__next__" "callable_iterator.__next__" :=
  .of (owner := "callable_iterator") (n := "__next__") (by rw [typeLookup_type, builtinLookup_eq_fast]; kernel_rfl) (by decide +kernel) (by decide +kernel) (by decide +kernel)
    (by first | exact .inl (by decide +kernel) | exact .inr (by decide +kernel)) (by rw [isSubtype_type]; kernel_rfl)
theorem entry_cit_next : entryFor table "callable_iterator.__next__" = some Builtin.«callable_iterator.__next__» := entryFor_of_tree (by kernel_rfl)
theorem owner_cit : Manifest.owners.lookup (String.ofList ['r', 'o', 't', 'a', 'r', 'e', 't', 'i', '_', 'e', 'l', 'b', 'a', 'l', 'l', 'a', 'c'].reverse) = some Manifest.sig_callable_iterator := by kernel_rfl
theorem args_cit_next_1 (a : Value) : argsOk "callable_iterator.__next__" ⟨[a], []⟩ := by
  unfold argsOk; rw [signature?_of (id := "callable_iterator.__next__") (n := ['_', '_', 't', 'x', 'e', 'n', '_', '_']) (o := ['r', 'o', 't', 'a', 'r', 'e', 't', 'i', '_', 'e', 'l', 'b', 'a', 'l', 'l', 'a', 'c']) (by kernel_rfl) owner_cit]; kernel_rfl
theorem Ok.swap {T : TI} {C : Cs} {s s' : Shared} {i : Nat} {a a' : Addr} {c c' : Cell} (k : Ok T C s) (hi : C[i]? = some (a, c)) (gr : Grow s s') (ca : CellAt T s'.heap a' c') (hf : ∀ b ∈ foot a' c', b ∈ foot a c ∨ s.heap.get? b = none) (nd : (foot a' c').Nodup) :
    Ok T (C.set i (a', c')) s' ∧ Go C s.heap (C.set i (a', c')) s'.heap := by
  obtain ⟨p, q⟩ := set_perm (y := (a', c')) hi
  have k₁ : Ok T ([(a, c)] ++ C.eraseIdx i) s := k.perm p
  have fe : foots [(a, c)] = foot a c := by simp [foots]
  have fe' : foots [(a', c')] = foot a' c' := by simp [foots]
  have g : Go [(a, c)] s.heap [(a', c')] s'.heap := ⟨fun b o e hb => gr.keep b o e, fun b hb => by rw [fe'] at hb; rw [fe]; exact hf b hb⟩
  have k₂ : Ok T [(a', c')] s' := k₁.left.mk' g (fun x hx => by cases List.mem_singleton.mp hx; exact ca) (by rw [fe']; exact nd) gr.gens gr.os
  obtain ⟨k₃, g₃⟩ := k₁.frame k₂ g
  exact ⟨k₃.perm q, (g₃.permL p.symm).permR q⟩
theorem lk_method_call : typeLookup (.type "method") "__call__" = pure (some (.builtin "method.__call__")) := by rw [typeLookup_type, builtinLookup_eq_fast]; kernel_rfl
section
variable {prog : Program} {w : World} {A : Around} {s : Shared}
theorem wp_stop {α : Type} {Q : α → Shared → Prop} {E : Value → Shared → Prop} (hh : A.handled = none)
    (h : ∀ h' x, (∀ b o, s.heap.get? b = some o → h'.get? b = some o) → (∃ o, h'.get? x = some o ∧ o.cls = .type "StopIteration") → E (.ref x) { s with heap := h' }) : wpAny (model prog w) A (Builtin.SmallTypes.stopIteration : Sem α) Q E s := by
  unfold Builtin.SmallTypes.stopIteration
  show wpAny _ _ (newExc (.type "StopIteration") [] >>= _) _ _ _
  refine wpAny_bind ?_
  simp only [newExc, newTuple]
  refine wpAny_bind (wpAny_newObj_type ?_ (by size_fits))
  refine wpAny_bind (m := firstArgMember _ _) (wpAny_of_eq (a := Value.none) (by first | rfl | (simp only [firstArgMember]; rfl)) ?_)
  refine wpAny_newObj_type ?_ (by size_fits)
  simp only [raiseNew]
  refine wpAny_bind (wpAny_handled ?_)
  rw [hh]
  refine wpAny_bind (wpAny_pure (wpAny_throw ?_))
  exact h _ _ (fun b o e => Heap.get?_push_of_some _ (Heap.get?_push_of_some _ e)) ⟨_, Heap.get?_push_size _ rfl, rfl⟩
theorem wp_borrowed {f : Value} {pos : List Value} {Q : Value → Shared → Prop} {E : Value → Shared → Prop} (h : wpAny (model prog w) A (call f pos) Q E s) : wpAny (model prog w) A (callBorrowed f pos) Q E s := by
  intro Γ p hΓ
  have q := h Γ p hΓ
  rw [Sem.wp_cmd_call] at q
  unfold callBorrowed
  rw [Sem.wp_call]
  refine wpCode_mono (fun r s' z => ?_) q
  cases r with
  | error e => exact z
  | ok f => cases f <;> exact z
theorem borrows_meth {m f self : Addr} {o : Obj} {fd : FuncData} {Q : Bool → Shared → Prop} {E : Value → Shared → Prop} (hm : s.heap.get? m = some (methObj f self)) (hf : s.heap.get? f = some o) (hd : o.data = .func fd) (h : Q true s) : wpAny (model prog w) A (borrowsExactly (.ref m)) Q E s := by
  unfold borrowsExactly
  dsimp only
  refine wpAny_bind (wpAny_load hm ?_)
  dsimp only
  rw [if_pos (by decide)]
  show wpAny _ _ (do match (← load f).data with | .func _ => pure true | _ => pure false) _ _ _
  refine wpAny_bind (wpAny_load hf ?_)
  rw [hd]
  exact wpAny_pure h

end
section
variable {T : TI} {A : Around} {C : Cs}
/-- iter(x.m, '') -/
theorem Call_iter2 {i : Nat} {m f self : Addr} {o : Obj} {fd : FuncData} {K} (hi : C[i]? = some (m, .meth f self)) (h : ∀ a, K (.ref a) (C.set i (a, .cit m f self false))) : Call T A C (.builtin "iter") [.ref m, .str Str.empty] K := by
  refine ⟨fun s xs k r => ?_⟩
  obtain ⟨x, ys, rfl, rx, r1⟩ := r.cons_inv
  obtain ⟨y, zs, rfl, ⟨t, rfl⟩, r2⟩ := r1.cons_inv
  cases r2.nil_inv
  cases rx
  have hm : s.heap.get? m = some (methObj f self) := cell_at k hi
  have hT : s.TypeIs (.ref m) "method" := ⟨_, hm, rfl⟩
  refine call_function_entry (by decide +kernel) (by decide +kernel) (entryFor_of_tree (b := Builtin.«iter») (by kernel_rfl)) (by unfold argsOk; kernel_rfl) ?_
  show wpAny _ _ (do
    if (← specialOf (.ref m) "__call__").isNone then rule "iter.not-callable"; raiseError "TypeError" "iter(v, w): v must be callable"
    rule "iter.sentinel"; ret (← newFields "callable_iterator" [.ref m, .str Str.empty t, .bool false])) _ _ _
  refine wpAny_bind (wpAny_specialOf hT lk_method_call ?_)
  refine wpAny_bind (wpAny_rule (wpAny_bind ?_))
  unfold newFields
  refine wpAny_newObj_type (wpAny_pure ⟨_, rfl, ?_⟩) (by size_fits)
  have hne : s.heap.objs.size ≠ m := Nat.ne_of_gt (Heap.lt_size hm)
  obtain ⟨k', g'⟩ := k.swap (a' := s.heap.objs.size) (c' := .cit m f self false) hi (Grow.push s { cls := .type "callable_iterator", data := .fields #[.ref m, .str Str.empty t, .bool false] } s.toks)
    ⟨⟨t, Heap.get?_push_size _ rfl⟩, Heap.get?_push_of_some _ hm⟩ (fun b hb => by
      simp only [foot, List.mem_cons, List.not_mem_nil, or_false] at hb
      rcases hb with rfl | rfl
      · exact .inr (get?_end _)
      · exact .inl (.head _)) (by simp [foot, hne])
  exact ⟨_, _, h _, rfl, k', g'⟩
end
end Mine
end
section
open PySem PySem.Spec PySem.Calls PyProof.Rows PySem.P
namespace Mine
theorem call_bound {prog : Program} {w : World} {A : Around} {s : Shared} {m f self : Addr} {a : Args} {R : Result → Shared → Prop} (hm : s.heap.get? m = some (methObj f self))
    (hq : codeAny (model prog w) A (.call (.ref f) { a with pos := .ref self :: a.pos }) R s) : codeAny (model prog w) A (.call (.ref m) a) R s := by
  refine codeAny_of_tree ?_
  show wpAny _ A.in1 (callAny (.ref m) a) _ _ _
  unfold callAny
  refine wpAny_bind (wpAny_load hm ?_)
  exact wpAny_pure ⟨rfl, hq⟩
section
variable {T : TI} {A : Around} {C : Cs}
set_option maxHeartbeats 1000000 in
theorem Nt_cit {n i : Nat} {a m f self : Addr} {o : Obj} {fd : FuncData} {target : Expr} {K} (rm : Rm A (n + 1)) (hi : C[i]? = some (a, .cit m f self false)) (hf : T.h₁.get? f = some o) (hfn : f ≠ T.tb) (hfd : o.data = .func fd)
    (h : CallC T A.in1 C (.ref f) [.ref self] (fun v C₁ => C₁[i]? = some (a, .cit m f self false) ∧ ∃ x, v = .str x ∧ if x = Str.empty then K .none (C₁.set i (a, .cit m f self true)) else K (some (.str x)) C₁))
    (ht : ∀ y, letOwnedTupleGo target (.ref a) y = pure () := by intro _; rfl) : Nt T A C target (.ref a) K := by
  refine ⟨fun s k => ?_⟩
  obtain ⟨⟨t, hc⟩, hm⟩ := cell_at k hi
  replace hc : s.heap.get? a = some { cls := .type "callable_iterator", data := .fields #[.ref m, .str Str.empty t, .bool false] } := hc
  have hT : s.TypeIs (.ref a) "callable_iterator" := ⟨_, hc, rfl⟩
  unfold pyNext
  refine wpAny_bind (wpAny_attempt (wpAny_callSpecial?_slot (name := Str.ofString "__next__") hT slot_cit_next (wpAny_call_entry slot_cit_next hT entry_cit_next ?_ (args_cit_next_1 _))))
  unfold Builtin.«callable_iterator.__next__»
  show wpAny _ _ (field (.ref a) 2 >>= _) _ _ s
  refine wpAny_bind (wpAny_field hc rfl (x := .bool false) rfl ?_)
  rw [if_neg (by decide)]
  refine wpAny_bind (wpAny_field hc rfl (x := .ref m) rfl ?_)
  refine wpAny_bind (wpAny_attempt ?_)
  unfold callOutOfASlot
  refine wpAny_bind (borrows_meth hm (k.top _ _ hf hfn) hfd ?_)
  rw [if_pos rfl]
  refine wp_borrowed (wpAny_call (call_bound hm (codeAny_mono (h.run s [.ref self] k (RelL.one rfl)) ?_)))
  rintro _ s₁ ⟨x, rfl, v, C₁, ⟨hi₁, y, rfl, hK⟩, ⟨u, rfl⟩, k₁, g₁⟩
  obtain ⟨⟨t₁, hc₁⟩, hm₁⟩ := cell_at k₁ hi₁
  replace hc₁ : s₁.heap.get? a = some { cls := .type "callable_iterator", data := .fields #[.ref m, .str Str.empty t₁, .bool false] } := hc₁
  show wpAny _ _ (field (.ref a) 2 >>= _) _ _ s₁
  refine wpAny_bind (wpAny_field hc₁ rfl (x := .bool false) rfl ?_)
  rw [if_neg (by decide)]
  refine wpAny_bind (wpAny_field hc₁ rfl (x := .str Str.empty t₁) rfl ?_)
  refine wpAny_bind (wpAny_holding (SeqAt.EqAt.str_str Str.empty t₁ y u _ _ _ _ ?_))
  by_cases hy : y = Str.empty
  · subst hy
    rw [if_pos rfl] at hK
    rw [if_neg (by simp)]
    refine wpAny_bind (wpAny_rule (wpAny_bind ?_))
    wp_delta
    refine wpAny_bind (wpAny_field hc₁ rfl (x := .ref m) rfl ?_)
    refine wpAny_bind ?_
    unfold slotLetsGo
    dsimp only
    refine wpAny_bind (borrows_meth hm₁ (k₁.top _ _ hf hfn) hfd ?_)
    rw [if_pos rfl]
    refine wpAny_pure (wpAny_bind (wpAny_setField_rec hc₁ (by simp) fun h₂ hc₂ hs₂ => wpAny_bind (wpAny_setField_rec hc₂ (by simp) fun h₃ hc₃ hs₃ => wpAny_setField_rec hc₃ (by simp) fun h₄ hc₄ hs₄ => ?_)))
    refine wp_stop rm.handled fun h₅ e hk₅ he₅ => ?_
    show wpAny _ _ (isInstance (.ref e) (.type "StopIteration") >>= _) _ _ _
    obtain ⟨oe, hoe, hce⟩ := he₅
    refine wpAny_bind (wpAny_isInstance (T := "StopIteration") (b := true) ⟨oe, hoe, hce⟩ isSubtype_stop ?_)
    rw [if_pos rfl]
    refine wpAny_pure ?_
    have same : ∀ b o, s₁.heap.get? b = some o → b ≠ a → h₅.get? b = some o := fun b o e hb => hk₅ b o ((hs₄.2 b hb).trans ((hs₃.2 b hb).trans ((hs₂.2 b hb).trans e)))
    have ham : a ≠ m := by
      rintro rfl
      rw [hc₁] at hm₁
      have z : (Value.type "callable_iterator") = Value.type "method" := congrArg Obj.cls (Option.some.inj hm₁)
      exact absurd z (by decide)
    obtain ⟨k₅, g₅⟩ := k₁.upd (c' := .cit m f self true) (s' := { s₁ with heap := h₅ }) hi₁ (fun b o e hb => same b o e fun z => hb (z ▸ .head _)) (fun _ => ⟨⟨0, hk₅ a _ (by have z := hc₄; simp at z; exact z)⟩, same m _ hm₁ (Ne.symm ham)⟩) rfl rfl rfl
    exact ⟨.none, _, hK, rfl, k₅, g₁.trans g₅⟩
  · rw [if_neg hy] at hK
    rw [if_pos (by simpa using fun e => hy e.symm)]
    refine wpAny_pure ⟨_, rfl, wpAny_pure ?_⟩
    show wpAny _ _ (letOwnedTupleGo target (.ref a) _) _ _ _
    rw [ht]
    exact wpAny_pure ⟨some (.str y), _, hK, ⟨_, rfl, u, rfl⟩, k₁, g₁⟩
/-- a callable iterator that has come to its end -/
theorem Nt_cit_dead {n i : Nat} {a m f self : Addr} {target : Expr} {K} (rm : Rm A n) (hi : C[i]? = some (a, .cit m f self true)) (h : K .none C) : Nt T A C target (.ref a) K := by
  refine ⟨fun s k => ?_⟩
  obtain ⟨⟨t, hc⟩, hm⟩ := cell_at k hi
  replace hc : s.heap.get? a = some { cls := .type "callable_iterator", data := .fields #[.none, .none, .bool true] } := hc
  have hT : s.TypeIs (.ref a) "callable_iterator" := ⟨_, hc, rfl⟩
  unfold pyNext
  refine wpAny_bind (wpAny_attempt (wpAny_callSpecial?_slot (name := Str.ofString "__next__") hT slot_cit_next (wpAny_call_entry slot_cit_next hT entry_cit_next ?_ (args_cit_next_1 _))))
  unfold Builtin.«callable_iterator.__next__»
  show wpAny _ _ (field (.ref a) 2 >>= _) _ _ s
  refine wpAny_bind (wpAny_field hc rfl (x := .bool true) rfl ?_)
  rw [if_pos (by decide)]
  refine wpAny_bind (wpAny_rule (wpAny_bind ?_))
  refine wp_stop rm.handled fun h₅ e hk₅ he₅ => ?_
  show wpAny _ _ (isInstance (.ref e) (.type "StopIteration") >>= _) _ _ _
  obtain ⟨oe, hoe, hce⟩ := he₅
  refine wpAny_bind (wpAny_isInstance (T := "StopIteration") (b := true) ⟨oe, hoe, hce⟩ isSubtype_stop ?_)
  rw [if_pos rfl]
  obtain ⟨k', g'⟩ := k.grow (s' := { s with heap := h₅ }) ⟨hk₅, rfl, rfl⟩
  exact wpAny_pure ⟨.none, _, h, rfl, k', g'⟩
end
end Mine
end
section
open PySem PySem.Spec PySem.Calls PyProof.Rows PySem.P
open Builtin Builtin.ObjectAttr
namespace Mine
theorem lk_fn_get : typeLookup (.type "function") "__get__" = pure (some (.builtin "function.__get__")) := by rw [typeLookup_type, builtinLookup_eq_fast]; kernel_rfl
theorem lk_fn_set : typeLookup (.type "function") "__set__" = pure none := by rw [typeLookup_type, builtinLookup_eq_fast]; kernel_rfl
theorem lk_fn_delete : typeLookup (.type "function") "__delete__" = pure none := by rw [typeLookup_type, builtinLookup_eq_fast]; kernel_rfl
section
variable {prog : Program} {w : World} {A : Around} {E : Value → Shared → Prop} {h : Heap} {g : Array GenState} {d : Drawn} {t : Nat} {os : OsState}
variable {nm q : Str} {C N x : Addr} {bs : List Value} {sn : List Str} {sub : List Value} {ab : Bool} {col : Option Bool} {dd : Option Addr} {k0 k1 k2 k3 k5 : Option Value} {newId : String}
  {mN mA : Str → Option Value} {name : Str} {v : Value}
set_option maxHeartbeats 1000000 in
theorem bound_entry {tk : Tok} {f : Addr} {of : Obj} {y : Option Value} {Q : Fin → Shared → Prop}
    (hC : h.get? C = some (excClassObj nm q C N bs [.type "object"] true sn sub ab col dd k0 k1 k2 k3 k5 newId)) (hn : h.Ns N mN) (hnh : mN "__getattr__" = none)
    (hf : mN name = some (.ref f)) (hfo : h.get? f = some of) (hfc : of.cls = .type "function") (hB : typeLookup (.type "object") name = pure y) (I : h.Inst x C mA) (hsh : mA name = none)
    (hg : (["__module__", "__name__", "__qualname__", "__doc__", "__annotations__"] : List Str).contains name = false)
    (hq : Q (.done (.ret (.ref h.objs.size))) ⟨h.push (methObj f x), g, d, t, os⟩) :
    wpAny (model prog w) A (Builtin.«proto.getattr_hooked» ⟨[.ref x, .str name tk], []⟩) Q E ⟨h, g, d, t, os⟩ := by
  obtain ⟨o, hx, hc, hnc, hd⟩ := I
  have f1 := lk_fn_get
  have f2 := lk_fn_set
  have f3 := lk_fn_delete
  have hT : (⟨h, g, d, t, os⟩ : Shared).TypeIs (.ref f) "function" := ⟨_, hfo, hfc⟩
  unfold Builtin.«proto.getattr_hooked» find
  repeat (first | (with_reducible refine wpAny_loadPart_at hx ?_; rw [hc]) | (with_reducible refine wpAny_typeLookup_exc hC hn F.mro_object hB ?_; rw [hf]) | (with_reducible refine wpAny_typeOf hT ?_) | (with_reducible refine wpAny_specialOf hT (by assumption) ?_) | wp_step)
  split
  · rename_i c hcd
    exact absurd hcd (hnc c)
  unfold instanceDict
  repeat (first | (with_reducible refine wpAny_loadPart_at hx ?_; rw [hc]) | with_reducible refine wpAny_loadPart_at hC ?_ | wp_step)
  rcases hd with ⟨hdn, _⟩ | ⟨dx, hdx, _, hns⟩
  · rw [hdn]
    repeat wp_step
    rw [hg, if_neg Bool.false_ne_true]
    repeat (first | (with_reducible refine wpAny_typeLookup_exc hC hn F.mro_object F.lk_object_getattr ?_; rw [hnh]) | wp_step)
    refine PySem.W.fn_get (K := [(f, of)]) (fun b ob e => ?_) (by simp [PySem.W.typeIn, hfc]) ?_
    · have e' : (if (b == f) = true then some of else none) = some ob := by
        have z := e
        rw [List.lookup_cons] at z
        cases hb : b == f <;> simp [hb] at z ⊢
        exact z
      split at e'
      · rename_i hb
        cases e'
        rw [beq_iff_eq.mp hb]; exact hfo
      · cases e'
    · repeat wp_step
      exact hq
  · rw [hdx]
    repeat (first | (with_reducible refine wpAny_nsGet hns.ns ?_; rw [hsh]) | wp_step)
    rw [hg, if_neg Bool.false_ne_true]
    repeat (first | (with_reducible refine wpAny_typeLookup_exc hC hn F.mro_object F.lk_object_getattr ?_; rw [hnh]) | wp_step)
    refine PySem.W.fn_get (K := [(f, of)]) (fun b ob e => ?_) (by simp [PySem.W.typeIn, hfc]) ?_
    · have e' : (if (b == f) = true then some of else none) = some ob := by
        have z := e
        rw [List.lookup_cons] at z
        cases hb : b == f <;> simp [hb] at z ⊢
        exact z
      split at e'
      · rename_i hb
        cases e'
        rw [beq_iff_eq.mp hb]; exact hfo
      · cases e'
    · repeat wp_step
      exact hq
theorem bound_attr {expr : Bool} {f : Addr} {of : Obj} {y : Option Value} {Q : Value → Shared → Prop}
    (hC : h.get? C = some (excClassObj nm q C N bs [.type "object"] true sn sub ab col dd k0 k1 k2 k3 k5 newId)) (hn : h.Ns N mN) (hng : mN "__getattribute__" = none) (hnh : mN "__getattr__" = none)
    (hf : mN name = some (.ref f)) (hfo : h.get? f = some of) (hfc : of.cls = .type "function") (hB : typeLookup (.type "object") name = pure y) (I : h.Inst x C mA) (hsh : mA name = none)
    (hg : (["__module__", "__name__", "__qualname__", "__doc__", "__annotations__"] : List Str).contains name = false) (hq : Q (.ref h.objs.size) ⟨h.push (methObj f x), g, d, t + 1, os⟩) :
    wpAny (model prog w) A (getAttr (.ref x) name expr) Q E ⟨h, g, d, t, os⟩ := by
  obtain ⟨o, hx, hc, _⟩ := id I
  unfold getAttr getAttrBy
  repeat (first | (with_reducible refine wpAny_loadPart_at hx ?_; rw [hc]) | (with_reducible refine wpAny_typeLookup_exc hC hn F.mro_object F.lk_object_ga ?_; rw [hng]) | wp_step)
  show wpAny _ _ ((runValue (.builtin "proto.getattr_hooked" ⟨[.ref x, .str name t], []⟩)).onRaise (noteIf true (.ref x) (.str name t))) _ _ _
  refine wpAny_onRaise (wpAny_runValue (codeAny_builtin F.plainObj_entry_getattr_hooked (bound_entry hC hn hnh hf hfo hfc hB I hsh hg ?_)))
  exact wpAny_pure hq
end
section
variable {T : TI} {A : Around} {env : Env} {ℓ : Lo} {H : Cs} {Cl N : Addr} {mN : Str → Option Value}
/-- x.m as a value -/
theorem Ev_bound {o : Expr} {name : Str} {pos : Pos} {fn : Addr} {of : Obj} {y : Option Value} {K} (c : Cls T Cl N mN) (hf : mN name = some (.ref fn)) (ho : T.h₁.get? fn = some of) (hne : fn ≠ T.tb) (hoc : of.cls = .type "function") (hB : typeLookup (.type "object") name = pure y)
    (hg : (["__module__", "__name__", "__qualname__", "__doc__", "__annotations__"] : List Str).contains name = false)
    (h : Ev T A env ℓ H o fun v H₁ => ∃ (a : Addr) (i : Nat) (d : Addr) (at' : Lo), v = .ref a ∧ H₁[i]? = some (a, Cell.inst Cl d at') ∧ at'.lookup name = none ∧ ∀ m, K (.ref m) ((m, .meth fn a) :: H₁))
    (he : eval (.Attribute o name pos) env = (do
      let o' ← eval o env
      standAt pos.atName
      let r ← holding [o'] (getAttr o' name true)
      letTemporaryGo o o' r
      pure r) := by rfl) : Ev T A env ℓ H (.Attribute o name pos) K := by
  refine ⟨fun s k => ?_⟩
  refine Attribute_any_ (wpAny_mono (h.run s k) ?_ fun _ _ e => e) he
  refine fun _ s₁ p₀ => p₀.inE fun v H₁ hh₀ r₁ k₁ g₁ => ?_
  obtain ⟨a, i, d, at', rfl, hi, hw, hK⟩ := hh₀
  cases r₁
  have hi' : (lc env ℓ :: H₁)[i + 1]? = some (a, Cell.inst Cl d at') := by simpa using hi
  obtain ⟨mA, I, ha⟩ := InstIs.inst (cell_at k₁ hi')
  obtain ⟨nm, q, bs, sn, sub, col, dd, k0, k1, k2, k3, k5, hC⟩ := (c.now k₁).obj
  have hns := (c.now k₁).ns
  have hfo := k₁.top _ _ ho hne
  obtain ⟨k₂, g₂⟩ := k₁.add (Grow.push s₁ (methObj fn a) (s₁.toks + 1)) (a := s₁.heap.objs.size) (c := .meth fn a) (Heap.get?_push_size _ rfl) (fun b hb => by cases List.mem_singleton.mp hb; exact get?_end _) (by simp [foot])
  have p : ((s₁.heap.objs.size, Cell.meth fn a) :: lc env ℓ :: H₁).Perm (lc env ℓ :: (s₁.heap.objs.size, Cell.meth fn a) :: H₁) := .swap _ _ _
  have fin : PostG T (lc env ℓ :: H) s.heap Rel (fun v C' => ∃ H', C' = lc env ℓ :: H' ∧ K v H') (.ref s₁.heap.objs.size) { s₁ with heap := s₁.heap.push (methObj fn a), toks := s₁.toks + 1 } :=
    (PostG.inI (v := .ref s₁.heap.objs.size) (hK _) rfl (k₂.perm p) ((g₁.trans g₂).permR p))
  obtain ⟨hh, g, dr, t, os⟩ := s₁
  exact bound_attr hC hns c.ga c.gh hf hfo hoc hB I (ha.none hw) hg fin
/-- C(..): an object of the class -/
theorem under_make {n : Nat} {C : Addr} {vals : List Value} (rm : Rm A (n + 1)) : Rm (A.under (.builtin "type.__call__" ⟨.ref C :: vals, []⟩)) n := by
  refine ⟨rm.handled, ?_, ?_⟩
  · have := rm.depth
    show A.depth + 1 + n ≤ 900
    omega
  · have := rm.units
    first
      | (show A.units + 2 + 20 * n + 40 ≤ 9000; omega)
      | (show A.units + 3 + 20 * n + 40 ≤ 9000; omega)
      | (show A.units + 1 + 20 * n + 40 ≤ 9000; omega)
      | (show A.units + 4 + 20 * n + 40 ≤ 9000; omega)
      | (show A.units + 5 + 20 * n + 40 ≤ 9000; omega)
theorem Call_class {n : Nat} {C : Cs} {vs : List V} {fI : Addr} {oI : Obj} {K} (c : Cls T Cl N mN) (hi : mN "__init__" = some (.ref fI)) (ho : T.h₁.get? fI = some oI) (hne : fI ≠ T.tb) (hoc : oI.cls = .type "function") (rm : Rm A (n + 1))
    (h : ∀ x d A', Rm A' n → Call T A' ((x, .inst Cl d []) :: C) (.ref fI) (.ref x :: vs) (fun v C' => v = .none ∧ K (.ref x) C')) : Call T A C (.ref Cl) vs K := by
  refine ⟨fun s xs k r => ?_⟩
  obtain ⟨nm, q, bs, sn, sub, col, dd, k0, k1, k2, k3, k5, hC⟩ := (c.now k).obj
  have hns := (c.now k).ns
  have hfo := k.top _ _ ho hne
  have key : ∀ h' x dx, Heap.MadeObj s.heap h' x dx Cl → wpAny (Mo T) (A.under (.builtin "type.__call__" ⟨.ref Cl :: xs, []⟩)) (call (.ref fI) (.ref x :: xs)) (fun r s' => r = .none ∧ PostG T C s.heap Rel K (.ref x) s') NoE { s with heap := h' } := by
    intro h' x dx m
    have gr : Grow s { s with heap := h' } := ⟨m.keeps, rfl, rfl⟩
    obtain ⟨o, hx, hc, hnc, hd⟩ := id m.inst
    have hdx := m.dict o hx
    obtain ⟨k', g'⟩ := k.add gr (a := x) (c := .inst Cl dx []) (by
      rcases hd with ⟨z, _⟩ | ⟨d, z, zne, zns⟩
      · rw [hdx] at z; cases z
      · rw [hdx] at z; cases z
        exact ⟨o, _, hx, hc, hnc, hdx, zne, zns, fun y => rfl⟩) (fun b hb => by
      simp only [foot, List.mem_cons, List.not_mem_nil, or_false] at hb
      rcases hb with rfl | rfl
      · exact m.newX
      · exact m.newD) (by
      rcases hd with ⟨z, _⟩ | ⟨d, z, zne, zns⟩
      · rw [hdx] at z; cases z
      · rw [hdx] at z; cases z
        simpa [foot] using fun e => zne e.symm)
    refine wpAny_mono ((h x dx _ (under_make rm)).run _ _ k' ⟨_, _, rfl, rfl, r.keep gr.tup⟩) ?_ fun _ _ e => e
    rintro y s₂ ⟨v, C', ⟨rfl, hK⟩, r₂, k₂, g₂⟩
    cases r₂
    exact ⟨rfl, .ref x, C', hK, rfl, k₂, g'.trans g₂⟩
  obtain ⟨hh, g, dr, t, os⟩ := s
  exact wpAny_call_obj_init F.objNew hC hns hi hfo hoc key
theorem Cls.callee (c : Cls T Cl N mN) (C : Cs) : Callee T C (.ref Cl) := .inr (.inr ⟨Cl, rfl, fun s k => by
  obtain ⟨nm, q, bs, sn, sub, col, dd, k0, k1, k2, k3, k5, hC⟩ := (c.now k).obj
  refine ⟨_, .inr (.inl rfl), fun A Q E s' kp hq => ?_⟩
  have f1 := tc_lookup
  have hT : s'.TypeIs (.ref Cl) "type" := ⟨_, kp _ _ hC, rfl⟩
  have hC' := kp _ _ hC
  obtain ⟨hh, g, d, t, os⟩ := s'
  unfold keeperOf specialOf
  repeat (any_goals (first | assumption | with_reducible refine wpAny_loadPart_at hC' ?_ | with_reducible refine wpAny_load' hC' ?_ | wp_step))⟩)
end
end Mine
end
section
open PySem PySem.Spec PySem.Calls PyProof.Rows PySem.P
namespace Mine
theorem slot_rg_rev : Slot "range" "__reversed__" "range.__reversed__" :=
  .of (owner := "range") (n := "__reversed__") (by rw [typeLookup_type, builtinLookup_eq_fast]; kernel_rfl) (by decide +kernel) (by decide +kernel) (by decide +kernel)
    (by first | exact .inl (by decide +kernel) | exact .inr (by decide +kernel)) (by rw [isSubtype_type]; kernel_rfl)
theorem entry_rg_rev : entryFor table "range.__reversed__" = some Builtin.«range.__reversed__» := entryFor_of_tree (by kernel_rfl)
theorem sub_rgi_rev : isSubtype (.type "range_iterator") (.type "reversed") = pure false := by rw [isSubtype_type]; kernel_rfl
theorem args_rg_rev (a : Value) : argsOk "range.__reversed__" ⟨[a], []⟩ := by
  unfold argsOk; rw [signature?_of (id := "range.__reversed__") (n := ['_', '_', 'd', 'e', 's', 'r', 'e', 'v', 'e', 'r', '_', '_']) (o := ['e', 'g', 'n', 'a', 'r']) (by kernel_rfl) F.owner_range]; kernel_rfl
section
variable {T : TI} {A : Around} {C : Cs}
theorem Call_range {b : Int} {K} (h : ∀ r, K (.ref r) ((r, .rng 0 b 1) :: C)) : Call T A C (.type "range") [.int b] K := by
  refine ⟨fun s xs k r => ?_⟩
  obtain ⟨x, ys, rfl, ⟨t, rfl⟩, e⟩ := r.cons_inv
  cases e
  refine call_range_1 ?_
  obtain ⟨k', g'⟩ := k.add (Grow.push s { cls := .type "range", data := .fields #[.int 0 s.toks, .int b t, .int 1 (s.toks + 1)] } (s.toks + 1 + 1)) (a := s.heap.objs.size) (c := .rng 0 b 1) ⟨_, _, _, IsRange.new ..⟩ (fun b hb => by cases List.mem_singleton.mp hb; exact get?_end _) (by simp [foot])
  exact ⟨_, _, h _, rfl, k', g'⟩
theorem Itr_rng {j : Nat} {r : Addr} {a b : Int} {n : Nat} {K} (hj : C[j]? = some (r, .rng a b 1)) (ha : -(2 ^ 62) ≤ a) (ha' : a < 2 ^ 62) (hb : -(2 ^ 62) ≤ b) (hb' : b < 2 ^ 62) (hn : (n : Int) = if a < b then b - a else 0) (h : ∀ i, K i ((i, .rit a n 1) :: C)) : Itr T A C (.ref r) K := by
  refine ⟨fun s x k r => ?_⟩
  cases r
  obtain ⟨t, u, v, hr⟩ := cell_at k hj
  refine wpAny_pyIter_range hr (small_one ha ha' hb hb') ?_
  obtain ⟨k', g'⟩ := k.add (Grow.push s { cls := .type "range_iterator", data := .fields #[rawInt a, rawInt (Builtin.Range.rangeSize a b 1), rawInt 1] } s.toks) (a := s.heap.objs.size) (c := .rit a n 1) (by rw [rangeSize_one, ← hn]; exact Heap.get?_push_size _ rfl) (fun b hb => by cases List.mem_singleton.mp hb; exact get?_end _) (by simp [foot])
  exact ⟨_, _, h _, rfl, k', g'⟩
theorem Itr_rit {j : Nat} {r : Addr} {x left step : Int} {K} (hj : C[j]? = some (r, .rit x left step)) (h : K r C) : Itr T A C (.ref r) K := by
  refine ⟨fun s x k r => ?_⟩
  cases r
  exact wpAny_pyIter_rangeiter (cell_at k hj) ⟨_, _, h, rfl, k, Go.refl _ _⟩
theorem Call_reversed_rng {j : Nat} {r : Addr} {b : Int} {n : Nat} {K} (hj : C[j]? = some (r, .rng 0 b 1)) (hb' : b < 2 ^ 62) (hn : (n : Int) = if 0 < b then b - 0 else 0) (hb : -(2 ^ 62) ≤ b) (h : ∀ i, K (.ref i) ((i, .rit (n - 1) n (-1)) :: C)) : Call T A C (.type "reversed") [.ref r] K := by
  refine ⟨fun s xs k rr => ?_⟩
  obtain ⟨x, ys, rfl, rx, e⟩ := rr.cons_inv
  cases e; cases rx
  obtain ⟨t, u, v, hr⟩ := cell_at k hj
  have hT : s.TypeIs (.ref r) "range" := ⟨_, hr, rfl⟩
  have hsz := rangeSize_one 0 b
  rw [← hn] at hsz
  refine callType_other (U := "range_iterator") (Q₁ := fun obj s₁ => obj = .ref s.heap.objs.size ∧ s₁ = { s with heap := s.heap.push { cls := .type "range_iterator", data := .fields #[rawInt ((n : Int) - 1), rawInt n, rawInt (-1)] } }) (by decide +kernel) F.create_reversed ⟨_, _, F.mro_reversed⟩ F.made_reversed sub_rgi_rev (F.typeCall_reversed_1 _) ?_ ?_
  · refine codeAny_of_tree ?_
    show wpAny _ A.in1.in1 (do checkBuiltinCall "reversed.__new__" ⟨[.type "reversed", .ref r], []⟩; again (.builtin "reversed.__new__" ⟨[.type "reversed", .ref r], []⟩)) _ _ s
    refine wpAny_bind (wpAny_of_eq (F.newCall_reversed_1 _) (wpAny_pure ⟨plainId_quiet F.plain_reversed_new _, codeAny_builtin F.entry_reversed_new ?_⟩))
    rw [Around.under_plainId F.plain_reversed_new _]
    unfold Builtin.«reversed.__new__»
    refine wpAny_bind (wpAny_of_eq (newClass_reversed _) ?_)
    try dsimp only
    refine wpAny_bind (wpAny_of_eq (a := ()) (by first | rfl | kernel_rfl) ?_)
    refine wpAny_bind (wpAny_of_eq (a := ()) (by first | rfl | kernel_rfl) ?_)
    try dsimp only
    refine wpAny_bind (wpAny_specialOf hT slot_rg_rev.lookup ?_)
    try dsimp only
    refine wpAny_bind (wpAny_of_eq (slot_rg_rev.bind _) ?_)
    try dsimp only
    first
    | rw [if_neg (show ¬ ((Value.builtin "range.__reversed__" == Value.none) = true) from Bool.false_ne_true)]
    | (show wpAny _ _ (if (Value.builtin "range.__reversed__" == Value.none) = true then _ else _) _ _ _; rw [if_neg (show ¬ ((Value.builtin "range.__reversed__" == Value.none) = true) from Bool.false_ne_true)])
    refine wpAny_bind (wpAny_rule ?_)
    have fin : wpAny (model T.prog T.w) A.in1.in1 (call (.builtin "range.__reversed__") [.ref r]) (fun obj s₁ => obj = .ref s.heap.objs.size ∧ s₁ = { s with heap := s.heap.push { cls := .type "range_iterator", data := .fields #[rawInt ((n : Int) - 1), rawInt n, rawInt (-1)] } }) NoE s := by
      refine wpAny_call_entry slot_rg_rev hT entry_rg_rev ?_ (args_rg_rev _)
      obtain ⟨hh, g, d, tk, os⟩ := s
      unfold Builtin.«range.__reversed__»
      repeat (any_goals (first | assumption | with_reducible refine wpAny_loadPart_at hr ?_ | wp_step))
      have fit : (Builtin.Range.rangeFitsLong 0 && Builtin.Range.rangeFitsLong b && Builtin.Range.rangeFitsLong 1 && Builtin.Range.rangeFitsLong (-1) && Builtin.Range.rangeFitsLong (0 - 1) && Builtin.Range.rangeFitsLong (Builtin.Range.rangeSize 0 b 1)) = true := by
        rw [hsz, hn]
        simp only [Builtin.Range.rangeFitsLong, Bool.and_eq_true, decide_eq_true_eq]
        split <;> omega
      rw [fit, hsz, if_neg (by decide), if_pos rfl, show (0 : Int) + ((n : Int) - 1) * 1 = n - 1 by omega]
      exact wpAny_bind (wpAny_newObj_type (wpAny_pure ⟨_, rfl, rfl, rfl⟩))
    refine wpAny_bind (m := runValue (.call (.builtin "range.__reversed__") ⟨[.ref r], []⟩)) (show wpAny _ _ (call (.builtin "range.__reversed__") [.ref r]) _ _ _ from wpAny_mono fin ?_ fun _ _ e => e.elim)
    rintro _ _ ⟨rfl, rfl⟩
    first
    | exact wpAny_pure ⟨rfl, rfl⟩
    | exact wpAny_bind (wpAny_pure (wpAny_pure ⟨rfl, rfl⟩))
  · rintro obj s₁ ⟨rfl, rfl⟩
    obtain ⟨k', g'⟩ := k.add (Grow.push s { cls := .type "range_iterator", data := .fields #[rawInt ((n : Int) - 1), rawInt n, rawInt (-1)] } s.toks) (a := s.heap.objs.size) (c := .rit (n - 1) n (-1)) (Heap.get?_push_size _ rfl) (fun b hb => by cases List.mem_singleton.mp hb; exact get?_end _) (by simp [foot])
    exact ⟨⟨_, Heap.get?_push_size _ rfl, rfl⟩, _, _, h _, rfl, k', g'⟩
/-! tuples -/
theorem Itr_tup {vs : List V} {K} (h : ∀ i, K i ((i, .tit vs) :: C)) : Itr T A C (.tup vs) K := by
  refine ⟨fun s x k r => ?_⟩
  obtain ⟨t, items, n, rfl, ht, rl⟩ := r
  refine wpAny_pyIter_tuple (IsT.isTuple ht) ?_
  have gr := Grow.push s { cls := .type "tuple_iterator", data := .fields #[.ref t, .int 0 0] } s.toks
  obtain ⟨k', g'⟩ := k.add gr (a := s.heap.objs.size) (c := .tit vs) ⟨t, items, n, 0, ⟨_, Heap.get?_push_size _ rfl, rfl, rfl⟩, gr.tup _ _ _ ht, rl.keep gr.tup⟩ (fun b hb => by cases List.mem_singleton.mp hb; exact get?_end _) (by simp [foot])
  exact ⟨_, _, h _, rfl, k', g'⟩
theorem Nt_tup {i : Nat} {a : Addr} {v : V} {vs : List V} {target : Expr} {K} (hi : C[i]? = some (a, .tit (v :: vs))) (h : K (some v) (C.set i (a, .tit vs))) : Nt T A C target (.ref a) K := by
  refine ⟨fun s k => ?_⟩
  obtain ⟨t, items, n, j, c, ht, rl⟩ := cell_at k hi
  obtain ⟨x, ys, e, rx, ry⟩ := rl.cons_inv
  have hj : items[j]? = some x := by
    rw [← Array.getElem?_toList]
    have := congrArg (·[0]?) e
    simpa using this
  have hd : items.toList.drop (j + 1) = ys := by
    rw [← List.drop_drop, e]; rfl
  refine wpAny_pyNext_tuple_item c (IsT.isTuple ht) hj fun h' c' hs => ?_
  obtain ⟨k', g'⟩ := k.upd (c' := .tit vs) (s' := { s with heap := h' }) hi (fun b o e hb => (hs.2 b fun z => hb (z ▸ .head _)).trans e) (fun tk => ⟨t, items, n, j + 1, c', tk _ _ _ ht, by rw [hd]; exact ry.keep tk⟩) rfl rfl rfl
  have fin : PostG T C s.heap RelO K (some x) { s with heap := h' } := ⟨_, _, h, ⟨_, rfl, rx.keep (g'.tup k)⟩, k', g'⟩
  show wpAny _ _ (letOwnedTupleGo target (.ref a) x) _ _ _
  unfold letOwnedTupleGo
  obtain ⟨o, ho, hc, hd⟩ := c'
  split
  · split
    · refine wpAny_bind (wpAny_load (by rename_i e; cases e; exact ho) ?_)
      rw [hc, hd]
      dsimp only
      rw [if_neg (by simp)]
      exact wpAny_pure fin
    · exact wpAny_pure fin
  · split
    · refine wpAny_bind (wpAny_load (by rename_i e; cases e; exact ho) ?_)
      rw [hc, hd]
      dsimp only
      rw [if_neg (by simp)]
      exact wpAny_pure fin
    · exact wpAny_pure fin
  · exact wpAny_pure fin
theorem Nt_tup_end {m i : Nat} {a : Addr} {target : Expr} {K} (rm : Rm A m) (hi : C[i]? = some (a, .tit [])) (h : K .none (C.eraseIdx i)) : Nt T A C target (.ref a) K := by
  refine ⟨fun s k => ?_⟩
  obtain ⟨t, items, n, j, c, ht, rl⟩ := cell_at k hi
  have e : items.toList.drop j = [] := rl
  refine wpAny_pyNext_tuple_end rm.handled c (IsT.isTuple ht) (by have := congrArg (·[0]?) e; simpa using this) fun h' hs => ?_
  obtain ⟨k', g'⟩ := k.lose (s' := { s with heap := h' }) hi (fun b o e hb => hs b o (fun z => hb (z ▸ .head _)) e) rfl rfl
  exact ⟨_, _, h, rfl, k', g'⟩
/-! enumerate -/
theorem Call_enumerate_list {j : Nat} {l : Addr} {vs : List V} {K} (hj : C[j]? = some (l, .list vs)) (h : ∀ e it, K (.ref e) ((e, .enl it l 0) :: C)) : Call T A C (.type "enumerate") [.ref l] K := by
  refine ⟨fun s xs k rr => ?_⟩
  obtain ⟨x, ys, rfl, rx, e⟩ := rr.cons_inv
  cases e; cases rx
  obtain ⟨items, nn, hl, r⟩ := cell_at k hj
  refine call_enumerate_list hl.isList fun h' he hi hz hk => ?_
  obtain ⟨k', g'⟩ := k.add (s' := { s with heap := h' }) ⟨hk, rfl, rfl⟩ (a := s.heap.objs.size + 1) (c := .enl s.heap.objs.size l 0) ⟨⟨_, he⟩, hi⟩ (fun b hb => by
    simp only [foot, List.mem_cons, List.not_mem_nil, or_false] at hb
    rcases hb with rfl | rfl
    · exact Heap.get?_none_of_le (Nat.le_succ _)
    · exact get?_end _) (by simp [foot])
  exact ⟨_, _, h _ _, rfl, k', g'⟩
theorem Call_enumerate_str {x : Str} {K} (ha : x.cps.all (· < 128) = true) (h : ∀ e it, K (.ref e) ((e, .ens it x 0) :: C)) : Call T A C (.type "enumerate") [.str x] K := by
  refine ⟨fun s xs k rr => ?_⟩
  obtain ⟨y, ys, rfl, ⟨t, rfl⟩, e⟩ := rr.cons_inv
  cases e
  refine call_enumerate_str fun h' he hi hz hk => ?_
  have hi' : h'.IsStrIter s.heap.objs.size "str_ascii_iterator" x t 0 := by
    have : strIterType x = "str_ascii_iterator" := by unfold strIterType; rw [ha]; rfl
    rw [this] at hi; exact hi
  obtain ⟨k', g'⟩ := k.add (s' := { s with heap := h' }) ⟨hk, rfl, rfl⟩ (a := s.heap.objs.size + 1) (c := .ens s.heap.objs.size x 0) ⟨⟨_, he⟩, t, hi'⟩ (fun b hb => by
    simp only [foot, List.mem_cons, List.not_mem_nil, or_false] at hb
    rcases hb with rfl | rfl
    · exact Heap.get?_none_of_le (Nat.le_succ _)
    · exact get?_end _) (by simp [foot])
  exact ⟨_, _, h _ _, rfl, k', g'⟩
theorem Itr_enl {j : Nat} {e it l : Addr} {i : Nat} {K} (hj : C[j]? = some (e, .enl it l i)) (h : K e C) : Itr T A C (.ref e) K := by
  refine ⟨fun s x k r => ?_⟩
  cases r
  obtain ⟨⟨old, he⟩, _⟩ := cell_at k hj
  exact wpAny_pyIter_enum he ⟨_, _, h, rfl, k, Go.refl _ _⟩
theorem Itr_ens {j : Nat} {e it : Addr} {x : Str} {i : Nat} {K} (hj : C[j]? = some (e, .ens it x i)) (h : K e C) : Itr T A C (.ref e) K := by
  refine ⟨fun s x k r => ?_⟩
  cases r
  obtain ⟨⟨old, he⟩, _⟩ := cell_at k hj
  exact wpAny_pyIter_enum he ⟨_, _, h, rfl, k, Go.refl _ _⟩
theorem foot_ne {T : TI} {C : Cs} {s : Shared} {i : Nat} {a b : Addr} {c : Cell} (k : Ok T C s) (hi : C[i]? = some (a, c)) (hf : foot a c = [a, b]) : a ≠ b := by
  obtain ⟨p, _⟩ := set_perm (y := (a, c)) hi
  have := (k.perm p).nd
  intro e; subst e
  rw [List.cons_append, foots_cons, hf] at this
  simp at this
theorem Nt_enl {i j n : Nat} {e it l : Addr} {vs : List V} {v : V} {ts : List Expr} {kd} {pos : Pos} {K} (hi : C[i]? = some (e, .enl it l n)) (hj : C[j]? = some (l, .list vs)) (hv : vs[n]? = some v)
    (h : K (some (.tup [.int n, v])) (C.set i (e, .enl it l (n + 1)))) : Nt T A C (.Tuple ts kd pos) (.ref e) K := by
  refine ⟨fun s k => ?_⟩
  obtain ⟨⟨old, he⟩, hit⟩ := cell_at k hi
  obtain ⟨items, nn, hl, r⟩ := cell_at k hj
  obtain ⟨x, hx, rx⟩ := r.get hv
  refine wpAny_pyNext_enum_item he hit hl.isList (by simpa using hx) (foot_ne k hi rfl) fun h' he' hit' ht hz hk => ?_
  refine wpAny_letOwnedTupleGo_enum he' fun h'' he'' hs => ?_
  have hsz : s.heap.objs.size ≠ e := fun z => by
    have he' : s.heap.get? e = some _ := he
    rw [← z, show s.heap.get? s.heap.objs.size = none from get?_end _] at he'; cases he'
  have ht' : h''.get? s.heap.objs.size = some { cls := .type "tuple", data := .seq #[.int n s.toks, x] } := (hs.2 _ hsz).trans ht
  obtain ⟨k', g'⟩ := k.upd (c' := .enl it l (n + 1)) (s' := { s with heap := h'', toks := s.toks + 1 }) hi (fun b o z hb => by
    simp only [foot, List.mem_cons, List.not_mem_nil, or_false, not_or] at hb
    exact (hs.2 b hb.1).trans (hk b o hb.1 hb.2 z)) (fun _ => ⟨⟨_, he''⟩, hit'.extBut hs.extBut (foot_ne k hi rfl).symm⟩) rfl rfl rfl
  exact ⟨_, _, h, ⟨_, rfl, _, _, _, rfl, ht', ⟨_, _, rfl, ⟨_, rfl⟩, _, _, rfl, rx.keep (g'.tup k), rfl⟩⟩, k', g'⟩
theorem Nt_enl_end {m i j n : Nat} {e it l : Addr} {vs : List V} {target : Expr} {K} (rm : Rm A m) (hi : C[i]? = some (e, .enl it l n)) (hj : C[j]? = some (l, .list vs)) (hv : vs[n]? = none) (h : K .none (C.eraseIdx i)) : Nt T A C target (.ref e) K := by
  refine ⟨fun s k => ?_⟩
  obtain ⟨⟨old, he⟩, hit⟩ := cell_at k hi
  obtain ⟨items, nn, hl, r⟩ := cell_at k hj
  have hlen := r.length
  rw [Array.length_toList] at hlen
  refine wpAny_pyNext_enum_end rm.handled he hit hl.isList (by simp at hv ⊢; omega) fun h' hs => ?_
  obtain ⟨k', g'⟩ := k.lose (s' := { s with heap := h' }) hi (fun b o e hb => hs b o (fun z => hb (z ▸ .tail _ (.head _))) e) rfl rfl
  exact ⟨_, _, h, rfl, k', g'⟩
theorem Nt_ens {m i n c : Nat} {e it : Addr} {x : Str} {ts : List Expr} {kd} {pos : Pos} {K} (rm : Rm A m) (hi : C[i]? = some (e, .ens it x n)) (hv : x.cps[n]? = some c)
    (h : K (some (.tup [.int n, .str ⟨#[c]⟩])) (C.set i (e, .ens it x (n + 1)))) : Nt T A C (.Tuple ts kd pos) (.ref e) K := by
  refine ⟨fun s k => ?_⟩
  obtain ⟨⟨old, he⟩, t, hit⟩ := cell_at k hi
  refine wpAny_pyNext_enum_itemD (Draws.strAscii (A := A.in1) rm.handled it x t) he hit (by have := Array.getElem?_eq_some_iff.mp hv; exact this.1) (foot_ne k hi rfl) (by simpa using foot_ne k hi rfl) fun y h' tk hy he' hit' ht hz hk => ?_
  obtain ⟨c', u, hc', rfl⟩ := hy
  rw [hv] at hc'
  cases hc'
  refine wpAny_letOwnedTupleGo_enum he' fun h'' he'' hs => ?_
  have hsz : s.heap.objs.size ≠ e := fun z => by
    have he' : s.heap.get? e = some _ := he
    rw [← z, show s.heap.get? s.heap.objs.size = none from get?_end _] at he'; cases he'
  have ht' : h''.get? s.heap.objs.size = some { cls := .type "tuple", data := .seq #[.int n tk, .str ⟨#[c]⟩ u] } := (hs.2 _ hsz).trans ht
  obtain ⟨k', g'⟩ := k.upd (c' := .ens it x (n + 1)) (s' := { s with heap := h'', toks := tk + 1 }) hi (fun b o z hb => by
    simp only [foot, List.mem_cons, List.not_mem_nil, or_false, not_or] at hb
    exact (hs.2 b hb.1).trans (hk b o hb.1 hb.2 z)) (fun _ => ⟨⟨_, he''⟩, t, hit'.extBut hs.extBut (foot_ne k hi rfl).symm⟩) rfl rfl rfl
  exact ⟨_, _, h, ⟨_, rfl, _, _, _, rfl, ht', ⟨_, _, rfl, ⟨_, rfl⟩, _, _, rfl, ⟨_, rfl⟩, rfl⟩⟩, k', g'⟩
theorem Nt_ens_end {m i n : Nat} {e it : Addr} {x : Str} {target : Expr} {K} (rm : Rm A m) (hi : C[i]? = some (e, .ens it x n)) (hv : n = x.cps.size) (h : K .none (C.eraseIdx i)) : Nt T A C target (.ref e) K := by
  subst hv
  refine ⟨fun s k => ?_⟩
  obtain ⟨⟨old, he⟩, t, hit⟩ := cell_at k hi
  refine wpAny_pyNext_enum_endD (Draws.strAscii (A := A.in1) rm.handled it x t) he hit fun h' hs => ?_
  obtain ⟨k', g'⟩ := k.lose (s' := { s with heap := h' }) hi (fun b o e hb => hs b o (fun z => hb (z ▸ .tail _ (.head _))) e) rfl rfl
  exact ⟨_, _, h, rfl, k', g'⟩
/-! strings -/
end
end Mine
end
section
open PySem PySem.Spec PySem.Calls PyProof.Rows PySem.P
open Builtin Builtin.Str
namespace Mine
/-- a text of code points -/
noncomputable def S (l : List Nat) : Str := ⟨l.toArray⟩
theorem S_cps (l : List Nat) : (S l).cps.toList = l := by simp [S]
theorem S_len (l : List Nat) : (S l).length = l.length := by simp [S, Str.length]
theorem S_app (a b : List Nat) : S a ++ S b = S (a ++ b) := by
  show Str.append _ _ = _
  simp [S, Str.append]
theorem S_beq (a b : List Nat) : (S a == S b) = (a == b) := by
  rw [Bool.eq_iff_iff]
  simp only [beq_iff_eq]
  constructor
  · intro h
    have := congrArg (·.cps.toList) h
    simpa [S] using this
  · rintro rfl; rfl
theorem count_go (a : List Nat) (c : Nat) : ∀ (m k : Nat) (acc : Array Nat) (free : Nat), k + m = a.length + 1 → free ≤ k → acc.size ≤ k →
    (forIn (List.range' k m) (acc, free) (PySem.StrLaws.occBody (S a) (S [c]) a.length (a.length + 1))).run.fst.size = acc.size + (a.drop k).count c
  | 0, k, acc, free, h1, h2, h3 => by
    rw [List.drop_eq_nil_of_le (by omega)]
    simp
  | m + 1, k, acc, free, h1, h2, h3 => by
    rw [List.range'_succ, List.forIn_cons]
    unfold PySem.StrLaws.occBody
    have hs1 : (S [c]).length = 1 := rfl
    by_cases hk : k < a.length
    · have hd : a.drop k = a[k] :: a.drop (k + 1) := (List.getElem_cons_drop hk).symm
      have hsub : subAt (S a) (S [c]) k = (a[k] == c) := by
        unfold subAt
        rw [hs1, Bool.eq_iff_iff]
        simp only [beq_iff_eq]
        have : (S a).cps.extract k (k + 1) = #[a[k]] := by
          apply Array.ext
          · simp [S]; omega
          · intro i h1 h2
            simp at h2
            subst h2
            simp [S]
        rw [this]
        simp [S]
      by_cases hc : a[k] = c
      · rw [if_pos ⟨⟨⟨by show acc.size < _; omega, h2⟩, by rw [hs1]; omega⟩, by rw [hsub]; simpa using hc⟩]
        have ih := count_go a c m (k + 1) (acc.push k) (k + 1) (by omega) (by omega) (by simp; omega)
        rw [hd, List.count_cons]
        simp only [hc, beq_self_eq_true, if_true]
        simp only [Array.size_push] at ih
        rw [show acc.size + (List.count c (a.drop (k + 1)) + 1) = acc.size + 1 + List.count c (a.drop (k + 1)) by omega, ← ih]
        rfl
      · rw [if_neg (by rw [hsub]; intro z; exact hc (by simpa using z.2))]
        have ih := count_go a c m (k + 1) acc free (by omega) (by omega) (by omega)
        rw [hd, List.count_cons]
        have : (a[k] == c) = false := by simpa using hc
        rw [this]
        simp only [Bool.false_eq_true, if_false, Nat.add_zero]
        exact ih
    · rw [if_neg (by rw [hs1]; intro z; have := z.1.2; omega)]
      have ih := count_go a c m (k + 1) acc free (by omega) (by omega) (by omega)
      rw [List.drop_eq_nil_of_le (by omega)] at ih ⊢
      exact ih
theorem count_one (a : List Nat) (c : Nat) : (occurrences (S a) (S [c]) 0 (S a).length ((S a).length + 1)).length = a.count c := by
  rw [PySem.StrLaws.occ_eq, S_len]
  have := count_go a c (a.length + 1) 0 #[] 0 (by omega) (by omega) (by simp)
  simpa using this
section
variable {T : TI} {A : Around} {C : Cs} {value slice : Expr}
theorem O_adds {a b : List Nat} {K} (hs : a.length + b.length ≤ 1000000) (h : K (.str (S (a ++ b))) C) : OpB T A C .Add (.str (S a)) (.str (S b)) K := by
  refine ⟨?_⟩
  rintro s _ _ k ⟨t, rfl⟩ ⟨u, rfl⟩
  refine PyProof.Rows.add_str (fun t' tk => ?_) (by rw [S_len, S_len, sizeLine_eq]; omega)
  rw [S_app]
  exact ret_growC h k (Grow.tok s _) ⟨_, rfl⟩
theorem O_iadds {a b : List Nat} {K} (hs : a.length + b.length ≤ 1000000) (h : K (.str (S (a ++ b))) C) : OpI T A C .Add (.str (S a)) (.str (S b)) K := by
  refine ⟨?_⟩
  rintro s _ _ k ⟨t, rfl⟩ ⟨u, rfl⟩
  refine PyProof.Rows.iadd_str (fun t' tk => ?_) (by rw [S_len, S_len, sizeLine_eq]; omega)
  rw [S_app]
  exact ret_growC h k (Grow.tok s _) ⟨_, rfl⟩
theorem O_eqS {a b : List Nat} {K} (h : K (.bool (a == b)) C) : OpC T A C .Eq (.str (S a)) (.str (S b)) K := O_eqs (by rw [S_beq]; exact h)
theorem O_inS {c : Nat} {b : List Nat} {K} (h : K (.bool (decide (c ∈ b))) C) : OpC T A C .In (.str (S [c])) (.str (S b)) K := O_ins (by
  rw [show S [c] = ⟨#[c]⟩ from rfl, PySem.StrLaws.found_one, S_cps]; exact h)
theorem O_itemS {a : List Nat} {n : Int} {c : Nat} {K} (h0 : 0 ≤ n) (hfit : n < 2 ^ 63) (hv : a[n.toNat]? = some c) (h : K (.str (S [c])) C)
    (hs : ∀ o i, subscripted slice false o i = operate [o, i] (getItem o i) := by intro _ _; rfl) : OpS T A C value slice (.str (S a)) (.int n) K := by
  refine ⟨?_⟩
  rintro s _ _ k ⟨t, rfl⟩ ⟨u, rfl⟩
  have hlt : n.toNat < a.length := (List.getElem?_eq_some_iff.mp hv).1
  refine tail_any (typeIs_str s _ t) F.slot_str_getitem.lookup (getItem_gives (typeIs_str s _ t) (by decide) F.slot_str_getitem F.entry_str_getitem (F.args_str_getitem_2 _ _) (gives_str_getitem (S a) n t u c (by simp; omega) ?_) ?_) (hs _ _)
  · rw [S_len, seqIndex_of h0 (by omega)]
    simpa [S] using hv
  · exact ⟨by show 1 ≤ sizeLine; decide, ret_growC h k (Grow.tok s _) ⟨_, rfl⟩⟩
/-- a prefix -/
structure OpU (T : TI) (A : Around) (C : Cs) (value slice : Expr) (v w : V) (K : V → Cs → Prop) : Prop where
  run : ∀ s x y, Ok T C s → Rel s.heap v x → Rel s.heap w y → wpAny (Mo T) A (subscriptTail value slice x (.ref s.heap.objs.size)) (PostG T C s.heap Rel K) NoE { s with heap := s.heap.push { cls := .type "slice", data := .fields #[.none, y, .none] } }
theorem Ev_upto {env : Env} {ℓ : Lo} {H : Cs} {value upper : Expr} {p pos : Pos} {K}
    (h : Ev T A env ℓ H value fun v H₁ => Ev T A env ℓ H₁ upper fun w H₂ => OpU T A (lc env ℓ :: H₂) value (.Slice none (some upper) none p) v w (inH env ℓ K)) : Ev T A env ℓ H (.Subscript value (.Slice none (some upper) none p) pos) K := by
  refine ⟨fun s k => ?_⟩
  refine Subscript_ (wpAny_mono (h.run s k) ?_ fun _ _ e => e)
  refine fun x s₁ p₀ => p₀.inE fun v H₁ hK r₁ k₁ g₁ => ?_
  refine wpAny_Slice (wpAny_pure (wpAny_mono (hK.run s₁ k₁) ?_ fun _ _ e => e))
  refine fun y s₂ p₀ => p₀.inE fun w H₂ hK₂ r₂ k₂ g₂ => ?_
  refine wpAny_pure (wpAny_mono (hK₂.run s₂ x y k₂ (r₁.keep (g₂.tup k₁)) r₂) (fun _ _ p => p.trans (g₁.trans g₂)) fun _ _ e => e)
theorem slicePick_up (items : Array Value) (n : Int) (h0 : 0 ≤ n) : (slicePick items none (some n) none).toList = items.toList.take n.toNat := by
  obtain ⟨b, rfl⟩ := Int.eq_ofNat_of_zero_le h0
  by_cases hb : b ≤ items.size
  · have := slicePick_upto items b hb
    rw [this]
    simp
  · have e : sliceBounds none (some (b : Int)) none items.size = (((0 : Nat) : Int), (items.size : Int), 1) := by
      simp only [sliceBounds, Option.getD_none]
      have h2 : ¬ ((b : Int) < 0) := by omega
      simp only [h2, if_false, show (1 : Int) > 0 by decide, if_true]
      congr 1
      congr 1; omega
    unfold slicePick
    rw [e]
    simp only [sliceRange_one, pick_run]
    simp
    omega
theorem O_upto_list {i : Nat} {a : Addr} {vs : List V} {n : Int} {K} (hi : C[i]? = some (a, .list vs)) (h0 : 0 ≤ n) (hn : vs.length ≤ 1000000) (h : ∀ b, K (.ref b) ((b, .list (vs.take n.toNat)) :: C))
    (hs : ∀ o i, subscripted slice false o i = operate [i, o] (getItem o i) := by intro _ _; rfl) : OpU T A C value slice (.ref a) (.int n) K := by
  refine ⟨?_⟩
  rintro s _ _ k rfl ⟨u, rfl⟩
  obtain ⟨items, nn, hl, r⟩ := cell_at k hi
  have hlen := r.length
  rw [Array.length_toList] at hlen
  have gr := Grow.push s { cls := .type "slice", data := .fields #[.none, .int n u, .none] } s.toks
  have hl' := hl.isList.push { cls := .type "slice", data := .fields #[.none, .int n u, .none] }
  refine tail_any (T := "list") (Heap.IsList.typeIs (s := { s with heap := s.heap.push _ }) hl') slot_list_getitem.lookup (wpAny_getItem_list_slice hl' (Heap.IsSliceOf.new ..) .none (.int n u) .none (by simp) ?_ (by rw [sizeLine_eq]; omega)) (hs _ _)
  obtain ⟨k₁, g₁⟩ := k.grow gr
  have gr₂ := Grow.push { s with heap := s.heap.push { cls := .type "slice", data := .fields #[.none, .int n u, .none] } } { cls := .type "list", data := .seq (slicePick items none (some n) none) } s.toks
  obtain ⟨k', g'⟩ := k₁.add gr₂ (a := _) (c := .list (vs.take n.toNat)) ⟨_, _, Heap.get?_push_size _ rfl, by rw [slicePick_up _ _ h0]; exact ((r.take _).keep gr.tup).keep gr₂.tup⟩ (fun b hb => by cases List.mem_singleton.mp hb; exact get?_end _) (by simp [foot])
  exact ⟨_, _, h _, rfl, k', g₁.trans g'⟩
theorem O_upto_str {a : List Nat} {n : Int} {K} (h0 : 0 ≤ n) (hn : a.length ≤ 1000000) (h : K (.str (S (a.take n.toNat))) C)
    (hs : ∀ o i, subscripted slice false o i = operate [i, o] (getItem o i) := by intro _ _; rfl) : OpU T A C value slice (.str (S a)) (.int n) K := by
  refine ⟨?_⟩
  rintro s _ _ k ⟨t, rfl⟩ ⟨u, rfl⟩
  have gr := Grow.push s { cls := .type "slice", data := .fields #[.none, .int n u, .none] } s.toks
  have hidx : slicePicked (S a) none (some (n, u)) none = (List.range (min n.toNat a.length)).map (fun k => 0 + k) := by
    unfold slicePicked
    rw [S_len]
    have := PySem.StrLaws.strSliceIndices_plain (a := 0) (b := min n.toNat a.length) (len := a.length) (by omega) (by omega)
    rw [Nat.sub_zero] at this
    rw [← this]
    have h1 : ¬ (n < 0) := by omega
    have h2 : ¬ (((min n.toNat a.length : Nat) : Int) < 0) := by omega
    have e1 : max (0 : Int) (min n (a.length : Int)) = max (0 : Int) (min ((min n.toNat a.length : Nat) : Int) (a.length : Int)) := by
      obtain ⟨m, rfl⟩ := Int.eq_ofNat_of_zero_le h0
      rw [Int.toNat_natCast]
      by_cases hm : m ≤ a.length
      · rw [Nat.min_eq_left hm]
      · rw [Nat.min_eq_right (Nat.le_of_not_le hm), Int.min_eq_right (Int.ofNat_le.mpr (Nat.le_of_not_le hm)), Int.min_eq_right (Int.le_refl _)]
    simp only [strSliceIndices, Option.map_none, Option.map_some, Option.getD_none, h1, h2, if_false, e1]
    have e2 : Max.max (0 : Int) (Min.min (0 : Int) (a.length : Int)) = 0 := by omega
    simp [e2]
  have hres : ((slicePicked (S a) none (some (n, u)) none).filterMap ((S a).cps[·]?)) = a.take n.toNat := by
    rw [hidx]
    have := PySem.StrLaws.picks a (min n.toNat a.length) 0 (by omega)
    rw [List.drop_zero] at this
    have e : a.take n.toNat = a.take (min n.toNat a.length) := by
      by_cases hh : n.toNat ≤ a.length
      · rw [Nat.min_eq_left hh]
      · rw [Nat.min_eq_right (by omega), List.take_of_length_le (by omega), List.take_of_length_le (by omega)]
    rw [e, ← this]
    simp [S]
  refine tail_any (T := "str") (typeIs_str { s with heap := s.heap.push _ } _ t) F.slot_str_getitem.lookup (wpAny_getItem_str_slice (l := none) (u := some (n, u)) (st := none) ⟨_, Heap.get?_push_size _ rfl, rfl, rfl⟩ rfl ?_) (hs _ _)
  unfold sliceMade
  split
  · rename_i hc
    have hl : min n.toNat a.length = a.length := by simpa [hidx, S_len] using hc
    have e : a.take n.toNat = a := List.take_of_length_le (by omega)
    rw [e] at h
    exact ret_growC (v := .str (S a)) h k gr ⟨_, rfl⟩
  · rw [hres]
    refine ⟨?_, ?_⟩
    · show (S (a.take n.toNat)).length ≤ sizeLine
      rw [S_len, sizeLine_eq]; simp; omega
    · exact ret_growC (v := .str (S (a.take n.toNat))) h k (gr.trans (Grow.tok _ _)) ⟨_, rfl⟩
theorem Call_lenS {a : List Nat} {K} (hn : a.length ≤ 1000000) (h : K (.int a.length) C) : Call T A C (.builtin "len") [.str (S a)] K := by
  refine ⟨fun s xs k r => ?_⟩
  obtain ⟨x, ys, rfl, ⟨t, rfl⟩, r'⟩ := r.cons_inv
  cases r'.nil_inv
  refine PySem.P.len_str (by rw [S_len]; omega) ?_
  rw [S_len]
  exact ret_growC h k (Grow.tok s _) ⟨_, rfl⟩
theorem Call_count {a : List Nat} {c : Nat} {K} (h : K (.int (a.count c)) C) : Call T A C (.builtin "str.count") [.str (S a), .str (S [c])] K := by
  refine ⟨fun s xs k r => ?_⟩
  obtain ⟨x, ys, rfl, ⟨t, rfl⟩, r'⟩ := r.cons_inv
  obtain ⟨x, ys, rfl, ⟨u, rfl⟩, r''⟩ := r'.cons_inv
  cases r''.nil_inv
  refine SC.count ?_
  have e : Txt.count (S a) (S [c]) = (a.count c : Int) := congrArg Int.ofNat (count_one a c)
  rw [e]
  exact ret_growC h k (Grow.tok s _) ⟨_, rfl⟩
end
end Mine
end
section
open PySem PySem.Spec PySem.Calls PyProof.Rows PySem.P
open Builtin Builtin.Str
namespace Mine
noncomputable def sV (ls : List (List Nat)) : List V := ls.map fun l => .str (S l)
theorem sV_rel {h : Heap} : ∀ {ls : List (List Nat)} {xs : List Value}, RelL h (sV ls) xs → ∃ l : List (Str × Tok), xs = strValues l ∧ l.map (·.1) = ls.map S
  | [], xs, r => ⟨[], by simpa [sV, RelL, strValues] using r, rfl⟩
  | a :: ls, xs, r => by
    obtain ⟨x, ys, rfl, ⟨t, rfl⟩, r'⟩ := RelL.cons_inv (v := .str (S a)) (vs := sV ls) r
    obtain ⟨l, rfl, e⟩ := sV_rel r'
    exact ⟨(S a, t) :: l, rfl, by simp [e]⟩
theorem glued_nil_go : ∀ (ls : List (List Nat)) (acc : List Nat), (ls.map S).foldl (fun acc p => acc ++ (S []).cps ++ p.cps) acc.toArray = (acc ++ ls.flatten).toArray
  | [], acc => by simp
  | a :: ls, acc => by
    have := glued_nil_go ls (acc ++ a)
    simp only [List.map_cons, List.foldl_cons, List.flatten_cons]
    rw [show acc.toArray ++ (S []).cps ++ (S a).cps = (acc ++ a).toArray by simp [S], this]
    simp
theorem glued_nil (ls : List (List Nat)) : glued (S []) (ls.map S) = S ls.flatten := by
  cases ls with
  | nil => rfl
  | cons a ls =>
    unfold glued
    have := glued_nil_go ls a
    simp only [List.map_cons, List.drop_succ_cons, List.drop_zero, List.headD_cons, List.flatten_cons]
    rw [show (S a).cps = a.toArray from rfl, this]; rfl
theorem join_fold : ∀ (ls : List (List Nat)) (n : Nat), (ls.map S).foldl (fun n s => n + s.length + (S []).length) n = n + ls.flatten.length
  | [], n => by simp
  | a :: ls, n => by
    simp only [List.map_cons, List.foldl_cons, List.flatten_cons, List.length_append]
    rw [join_fold ls, S_len, S_len]
    simp; omega
theorem RelL.of_get {h : Heap} {vs : List V} : ∀ {xs : List Value}, vs.length = xs.length → (∀ (i : Nat) v x, vs[i]? = some v → xs[i]? = some x → Rel h v x) → RelL h vs xs := by
  induction vs with
  | nil =>
    intro xs e _
    rw [List.length_eq_zero_iff.mp e.symm]
    simp [RelL]
  | cons v vs ihv =>
    intro xs e p
    cases xs with
    | nil => cases e
    | cons x xs =>
      simp only [RelL]
      exact ⟨x, xs, rfl, p 0 v x rfl rfl, ihv (Nat.succ.inj e) fun i v' x' a b => p (i + 1) v' x' (by simpa using a) (by simpa using b)⟩
section
variable {T : TI} {A : Around} {C : Cs} {value slice : Expr}
theorem Call_join {i : Nat} {a : Addr} {ls : List (List Nat)} {K} (hi : C[i]? = some (a, .list (sV ls))) (hn : ls.flatten.length ≤ 1000000) (h : K (.str (S ls.flatten)) C) : Call T A C (.builtin "str.join") [.str (S []), .ref a] K := by
  refine ⟨fun s xs k r => ?_⟩
  obtain ⟨x, ys, rfl, ⟨t, rfl⟩, r'⟩ := r.cons_inv
  obtain ⟨x, ys, rfl, rx, r''⟩ := r'.cons_inv
  cases r''.nil_inv
  cases rx
  obtain ⟨items, n, hl, rl⟩ := cell_at k hi
  obtain ⟨l, e, e'⟩ := sV_rel rl
  have hl' : s.heap.IsList a (strValues l).toArray := by
    rw [← e]; simpa using hl.isList
  refine SC.join hl' e' ?_ fun t' tk => ?_
  · unfold JoinOk tooLong
    simp only [List.foldl_toArray, Bool.not_eq_true', decide_eq_false_iff_not]
    have := join_fold ls 0
    have e0 : (List.foldl (fun (x1 : Nat) (x2 : Str) => x1 + x2.length + (S []).length) 0 (List.map S ls)) = ls.flatten.length := by rw [this]; omega
    rw [e0, sizeLine_eq]; omega
  · have e2 : Txt.join (S []) (ls.map S) = S ls.flatten := glued_nil ls
    rw [e2]
    exact ret_growC h k (Grow.tok s _) ⟨_, rfl⟩
/-- list(text) -/
theorem Call_listS {m : Nat} {a : List Nat} {K} (rm : Rm A m) (hn : a.length ≤ 1000000) (h : ∀ b, K (.ref b) ((b, .list (sV (a.map fun c => [c]))) :: C)) : Call T A C (.type "list") [.str (S a)] K := by
  refine ⟨fun s xs k r => ?_⟩
  obtain ⟨x, ys, rfl, ⟨t, rfl⟩, r'⟩ := r.cons_inv
  cases r'.nil_inv
  refine call_list_str rm.handled (S a) t (fun h' tk acc' c' hk hS hacc => ?_) (by show (S a).length ≤ _; rw [S_len, sizeLine_eq]; omega)
  have hsz : acc'.size = a.length := by rw [hacc.1]; exact S_len a
  have gr : Grow s { s with heap := h', toks := tk } := ⟨hk, rfl, rfl⟩
  obtain ⟨k', g'⟩ := k.add gr (a := s.heap.objs.size) (c := .list (sV (a.map fun c => [c]))) ⟨acc', c', hS, RelL.of_get (by simp [sV, hsz]) fun i v x hv hx => by
    obtain ⟨c, u, hc, rfl⟩ := hacc.2 i x (by simpa using hx)
    simp only [sV, List.map_map, List.getElem?_map, Option.map_eq_some_iff] at hv
    obtain ⟨c₂, hc₂, rfl⟩ := hv
    have : a[i]? = some c := by simpa [S] using hc
    rw [this] at hc₂; cases hc₂
    exact ⟨u, rfl⟩⟩ (fun b hb => by cases List.mem_singleton.mp hb; exact get?_end _) (by simp [foot])
  exact ⟨_, _, h _, rfl, k', g'⟩
/-- list + list -/
theorem O_addl {i j : Nat} {a b : Addr} {vs ws : List V} {K} (hi : C[i]? = some (a, .list vs)) (hj : C[j]? = some (b, .list ws)) (hn : vs.length + ws.length ≤ 1000000) (h : ∀ c, K (.ref c) ((c, .list (vs ++ ws)) :: C)) : OpB T A C .Add (.ref a) (.ref b) K := by
  refine ⟨?_⟩
  rintro s _ _ k rfl rfl
  obtain ⟨items, n, hl, r⟩ := cell_at k hi
  obtain ⟨items2, n2, hl2, r2⟩ := cell_at k hj
  have e1 := r.length
  have e2 := r2.length
  rw [Array.length_toList] at e1 e2
  refine PySem.P.add_list hl hl2 ?_ (by rw [sizeLine_eq]; omega)
  have gr := Grow.push s { cls := .type "list", data := .seq (items ++ items2) } s.toks
  obtain ⟨k', g'⟩ := k.add gr (a := s.heap.objs.size) (c := .list (vs ++ ws)) ⟨_, _, Heap.get?_push_size _ rfl, by simpa using (r.keep gr.tup).append (r2.keep gr.tup)⟩ (fun b hb => by cases List.mem_singleton.mp hb; exact get?_end _) (by simp [foot])
  exact ⟨_, _, h _, rfl, k', g'⟩
/-- xs[i] op= e -/
theorem Ex_augitem {env : Env} {ℓ : Lo} {H : Cs} {o i : Expr} {pos' pos : Pos} {op : Operator} {e : Expr} {K}
    (h : Ev T A env ℓ H o fun w H₁ => Ev T A env ℓ H₁ i fun x H₂ => ∃ (a : Addr) (j : Nat) (vs : List V) (n : Int) (v : V), w = .ref a ∧ x = .int n ∧ H₂[j]? = some (a, .list vs) ∧ 0 ≤ n ∧ n < 2 ^ 63 ∧ vs[n.toNat]? = some v ∧
      Ev T A env ℓ H₂ e fun u H₃ => OpI T A (lc env ℓ :: H₃) op v u (inH env ℓ fun r H₄ => ∃ j' vs', H₄[j']? = some (a, .list vs') ∧ n < vs'.length ∧ vs'.length ≤ 1000000 ∧ K .next ℓ (H₄.set j' (a, .list (vs'.set n.toNat r)))))
    (hs : ∀ ov iv new, augStore i ov iv new = (do holding [new, ov, iv] (setItem ov iv new); release [new, ov, iv] []; pure .next) := by intros; rfl) : Ex T A env ℓ H (.AugAssign (.Subscript o i pos') op e pos) K := by
  refine ⟨fun s k => ?_⟩
  refine wpAny_AugAssign_SubscriptAny (wpAny_mono (h.run s k) ?_ fun _ _ e => e) hs
  refine fun x s₁ p₀ => p₀.inE fun w H₁ hK r₁ k₁ g₁ => ?_
  refine wpAny_mono (hK.run s₁ k₁) ?_ fun _ _ e => e
  refine fun y s₂ p₀ => p₀.inE fun w₂ H₂ hh₀ r₂ k₂ g₂ => ?_
  obtain ⟨a, j, vs, n, v, rfl, rfl, hj, h0, hfit, hv, hE⟩ := hh₀
  cases r₁
  obtain ⟨t, rfl⟩ := r₂
  have hj' : (lc env ℓ :: H₂)[j + 1]? = some (a, Cell.list vs) := by simpa using hj
  obtain ⟨items, nn, hl, r⟩ := cell_at k₂ hj'
  obtain ⟨old, hx, rx⟩ := r.get hv
  refine wpAny_getItem_list hl.isList h0 hfit (by simpa using hx) ?_
  refine wpAny_mono (hE.run s₂ k₂) ?_ fun _ _ e => e
  refine fun u s₃ p₀ => p₀.inE fun uu H₃ hO r₃ k₃ g₃ => ?_
  refine wpAny_mono (hO.run s₃ old u k₃ (rx.keep (g₃.tup k₂)) r₃) ?_ fun _ _ e => e
  refine fun z s₄ p₀ => p₀.inE fun zz H₄ hh₀ r₄ k₄ g₄ => ?_
  obtain ⟨j', vs', hj₄, hlt₄, hn₄, hK₄⟩ := hh₀
  have hj₄' : (lc env ℓ :: H₄)[j' + 1]? = some (a, Cell.list vs') := by simpa using hj₄
  obtain ⟨items', nn', hl', r'⟩ := cell_at k₄ hj₄'
  have hlen := r'.length
  rw [Array.length_toList] at hlen
  refine setItem_exact hl' h0 (by omega) (by omega) ?_
  obtain ⟨k₅, g₅⟩ := list_upd (vs' := vs'.set n.toNat zz) (f := fun xs => xs.setIfInBounds n.toNat z) (t := s₄.toks) k₄ hj₄' hl' (fun tk => by
    simpa using (r'.keep tk).set (r₄.keep tk))
  exact PostG.stI (v := .next) hK₄ rfl k₅ ((((g₁.trans g₂).trans g₃).trans g₄).trans g₅)
end
end Mine
end
section
open PySem PySem.Spec PySem.Calls PyProof.Rows PySem.P
namespace Mine
/-- an iterator is its own iterator -/
noncomputable def SelfIt (T : TI) (C : Cs) (a : Addr) : Prop := ∀ (A : Around) (s : Shared) (Q : Value → Shared → Prop), Ok T C s → Q (.ref a) s → wpAny (Mo T) A (pyIter (.ref a)) Q NoE s
theorem Self_lit {T : TI} {C : Cs} {i n : Nat} {a l : Addr} (hi : C[i]? = some (a, .lit l n)) : SelfIt T C a := fun A s Q k q => wpAny_pyIter_listiter (cell_at k hi) q
theorem Self_tit {T : TI} {C : Cs} {i : Nat} {a : Addr} {vs : List V} (hi : C[i]? = some (a, .tit vs)) : SelfIt T C a := fun A s Q k q => by
  obtain ⟨t, items, n, j, c, _⟩ := cell_at k hi
  exact wpAny_pyIter_tupleiter c q
/-- a comprehension under way -/
structure Cm (T : TI) (A : Around) (env : Env) (ℓ : Lo) (H : Cs) (elt target iter : Expr) (scope : Scope) (pos : Pos) (it : Value) (D : Addr) (K : Cs → Prop) : Prop where
  run : ∀ s, Ok T (lc env ℓ :: H) s → codeAny (Mo T) A (.compLoop (.ListComp elt [⟨target, iter, [], 0⟩] scope pos) 0 it (.ref D) env) (fun r s' => ∃ f, r = .ok f ∧ ∃ ℓ' H', K H' ∧ Ok T (lc env ℓ' :: H') s' ∧ Go (lc env ℓ :: H) s.heap (lc env ℓ' :: H') s'.heap) s
noncomputable def cmK (T : TI) (A : Around) (env : Env) (ℓ : Lo) (elt target iter : Expr) (scope : Scope) (pos : Pos) (it : Value) (D : Addr) (K : Cs → Prop) : Option V → Cs → Prop
  | .none, H => K H
  | some v, H => Asn T A env ℓ H target v fun ℓ₂ H₂ => Ev T A env ℓ₂ H₂ elt fun w H₃ => ∃ j vs, H₃[j]? = some (D, .list vs) ∧ vs.length ≤ 1000000 ∧ Cm T A env ℓ₂ (H₃.set j (D, .list (vs ++ [w]))) elt target iter scope pos it D K
theorem Cm_step {T : TI} {A : Around} {env : Env} {ℓ : Lo} {H : Cs} {elt target iter : Expr} {scope : Scope} {pos : Pos} {it : Value} {D : Addr} {K : Cs → Prop}
    (h : Nt T A (lc env ℓ :: H) target it (inH env ℓ (cmK T A env ℓ elt target iter scope pos it D K))) : Cm T A env ℓ H elt target iter scope pos it D K := by
  refine ⟨fun s k => ?_⟩
  refine codeAny_of_tree ?_
  show wpAny _ A ((compTurn (.ListComp elt [⟨target, iter, [], 0⟩] scope pos) 0 it (.ref D) env).onRaise (fun x => do noteFrame x env; theTreesLotGoes x)) _ _ s
  refine wpAny_noted (wpAny_mono (E := NoE) ?_ (fun _ _ q => q) fun _ _ e => e.elim)
  rw [compTurn_list1]
  refine wpAny_bind (wpAny_standAt (wpAny_bind (wpAny_mono (h.run s k) (fun o s₁ p => ?_) fun _ _ e => e)))
  cases o with
  | none =>
    obtain ⟨v, _, ⟨H₁, rfl, hK⟩, r₁, k₁, g₁⟩ := p
    cases v with
    | some v => obtain ⟨y, e, _⟩ := r₁; cases e
    | none => exact wpAny_pure ⟨_, rfl, ℓ, H₁, hK, k₁, g₁⟩
  | some x =>
    refine wpAny_bind (wpAny_mono p (fun _ s₂ q => ?_) fun _ _ e => e)
    obtain ⟨v, _, ⟨H₁, rfl, hK⟩, r₁, k₁, g₁⟩ := q
    cases v with
    | none => cases r₁
    | some v =>
      obtain ⟨y, e, ry⟩ := r₁
      cases e
      refine wpAny_bind (wpAny_mono (Asn.run hK s₂ x k₁ ry) ?_ fun _ _ e => e)
      rintro _ s₃ ⟨ℓ₂, H₂, hK₂, k₂, g₂⟩
      refine wpAny_bind (wpAny_bind (wpAny_mono (hK₂.run s₃ k₂) ?_ fun _ _ e => e))
      refine fun z s₄ p₀ => p₀.inE fun w H₃ hh₀ r₃ k₃ g₃ => ?_
      obtain ⟨j, vs, hj, hn, hC⟩ := hh₀
      have hj' : (lc env ℓ₂ :: H₃)[j + 1]? = some (D, Cell.list vs) := by simpa using hj
      have cl : Call T A (lc env ℓ₂ :: H₃) (.builtin "list.append") [.ref D, w] (fun _ C' => C' = lc env ℓ₂ :: H₃.set j (D, .list (vs ++ [w]))) := Call_append hj' hn rfl
      refine wpAny_bind (wpAny_mono (cl.run s₄ [.ref D, z] k₃ ⟨_, _, rfl, rfl, _, _, rfl, r₃, rfl⟩) ?_ fun _ _ e => e)
      rintro _ s₅ ⟨_, _, rfl, _, k₄, g₄⟩
      have g := ((g₁.trans g₂).trans g₃).trans g₄
      exact wpAny_pure (wpAny_pure ⟨rfl, codeAny_mono (hC.run s₅ k₄) fun r s' ⟨f, e, ℓ', H', q, k', g'⟩ => ⟨f, e, ℓ', H', q, k', g.trans g'⟩⟩)
theorem own_comp (scope : Scope) (cl : List (Str × Addr)) (L : Addr) (env : Env) : ownCells (compEnvC scope cl L env) = [] := rfl
theorem Ok.comp {T : TI} {cenv : Env} {ℓ : Lo} {C : Cs} {s : Shared} {h' : Heap} (ho : ownCells cenv = []) (k : Ok T (lc cenv ℓ :: C) s) (hs : Heap.SameBut cenv.locals s.heap h') : Ok T C { s with heap := h' } ∧ Go (lc cenv ℓ :: C) s.heap C h' :=
  k.lose (i := 0) (s' := { s with heap := h' }) rfl (fun b o e hb => (hs.2 b fun z => hb (by rw [z]; exact .head _)).trans e) rfl rfl
noncomputable def lateK (T : TI) (A : Around) (env : Env) (ℓ : Lo) (H : Cs) (elt target iter : Expr) (scope : Scope) (cl : List (Str × Addr)) (pos : Pos) (K : Addr → Cs → Prop) : Prop :=
  Ev T A env ℓ H iter fun v H₁ => Itr T A (lc env ℓ :: H₁) v fun a C' => ∃ H₂, C' = lc env ℓ :: H₂ ∧ ∀ D L, SelfIt T (lc (compEnvC scope cl L env) [] :: lc env ℓ :: (D, .list []) :: H₂) a ∧
      Cm T A (compEnvC scope cl L env) [] (lc env ℓ :: (D, .list []) :: H₂) elt target iter scope pos (.ref a) D (fun H' => ∃ H'', H' = lc env ℓ :: H'' ∧ K D H'')
theorem comp_any {T : TI} {A : Around} {env : Env} {ℓ : Lo} {H : Cs} {elt target iter : Expr} {scope : Scope} {cl : List (Str × Addr)} {pos pos' : Pos} {K : Addr → Cs → Prop} {use : Option (Value → Sem Unit)} {Q : Value → Shared → Prop} {s : Shared} (k : Ok T (lc env ℓ :: H) s)
    (h : lateK T A env ℓ H elt target iter scope cl pos K)
    (hQ : ∀ D L ℓ' H' s', K D H' → Ok T (lc (compEnvC scope cl L env) ℓ' :: lc env ℓ :: H') s' → Go (lc env ℓ :: H) s.heap (lc (compEnvC scope cl L env) ℓ' :: lc env ℓ :: H') s'.heap → compPost (Mo T) A NoE use Q (.ref D) L (.ok .next) s')
    (hclos : closureFor scope env = pure cl) (hcell : ∀ x ∈ scope.names, x.2 ≠ .cell) (hkind : scope.kind = .function) (hnames : ∀ x ∈ scope.names, x.2 = .local → scope.names.lookup x.1 = some .local)
    (hs : ∀ x, foldedSetIterable iter env x = pure x) : wpAny (Mo T) A (comprehension (.ListComp elt [⟨target, iter, [], 0⟩] scope pos) scope env pos' (newList []) false (eval iter env) use) Q NoE s := by
  refine wpAny_comprehension_free (use := use) rfl hs hclos hkind hnames (wpAny_mono (Ev.run h s k) ?_ fun _ _ e => e)
  refine fun x s₁ p₀ => p₀.inE fun v H₁ hI r₁ k₁ g₁ => ?_
  refine wpAny_mono (hI.run s₁ x k₁ r₁) ?_ fun _ _ e => e
  rintro _ s₂ ⟨a, _, ⟨H₂, rfl, hC⟩, rfl, k₂, g₂⟩
  refine wpAny_newObj_type ?_
  obtain ⟨k₃, g₃⟩ := k₂.add (Grow.push s₂ { cls := .type "list", data := .seq #[] } s₂.toks) (a := s₂.heap.objs.size) (c := .list []) ⟨_, _, Heap.get?_push_size _ rfl, rfl⟩ (fun b hb => by cases List.mem_singleton.mp hb; exact get?_end _) (by simp [foot])
  refine wpAny_newFunctionEnv hcell (by intro y hy; simp at hy) (fun h₁ hns hsb => ?_) hkind
  dsimp only at hns hsb ⊢
  generalize hL : (s₂.heap.push { cls := .type "list", data := .seq #[] }).objs.size = L at *
  have kp : ∀ b o, (s₂.heap.push { cls := .type "list", data := .seq #[] }).get? b = some o → h₁.get? b = some o := fun b o e =>
    hsb.extBut b o (by rw [← hL]; exact Nat.ne_of_lt (Heap.lt_size e)) (Heap.get?_push_of_some _ e)
  obtain ⟨k₄, g₄⟩ := k₃.add (s' := { s₂ with heap := h₁, toks := s₂.toks + 0 }) ⟨kp, rfl, rfl⟩ (a := L) (c := .loc (compEnvC scope cl L env) []) ⟨rfl, ⟨_, hns, fun x v e => by cases e⟩, fun c hc => by rw [own_comp] at hc; cases hc⟩
    (fun b hb => by
      simp only [foot, own_comp, List.mem_cons, List.not_mem_nil, or_false] at hb
      subst hb; rw [← hL]; exact get?_end _) (by simp [foot, own_comp])
  have p : (lc (compEnvC scope cl L env) [] :: (s₂.heap.objs.size, Cell.list []) :: lc env ℓ :: H₂).Perm (lc (compEnvC scope cl L env) [] :: lc env ℓ :: (s₂.heap.objs.size, Cell.list []) :: H₂) := (List.Perm.swap _ _ _).cons _
  have k₅ := k₄.perm p
  have g₅ := (((g₁.trans g₂).trans g₃).trans g₄).permR p
  obtain ⟨hself, hcm⟩ := hC s₂.heap.objs.size L
  have loop : codeAny (Mo T) A (.compLoop (.ListComp elt [⟨target, iter, [], 0⟩] scope pos) 0 (.ref a) (.ref s₂.heap.objs.size) (compEnvC scope cl L env)) (compPost (Mo T) A NoE use Q (.ref s₂.heap.objs.size) L) { s₂ with heap := h₁, toks := s₂.toks + 0 } := by
    refine codeAny_mono (hcm.run _ k₅) ?_
    rintro r s' ⟨f, rfl, ℓ', _, ⟨H'', rfl, hK⟩, k', g'⟩
    have := hQ _ _ _ _ _ hK k' (g₅.trans g')
    cases use <;> exact this
  exact codeAny_compStart_list loop (hself _ _ _ k₅ loop |> fun w => wpAny_mono w (fun _ _ q => q) fun _ _ e => e.elim)
theorem Ev_comp {T : TI} {A : Around} {env : Env} {ℓ : Lo} {H : Cs} {elt target iter : Expr} {scope : Scope} {pos : Pos} {K} (cl : List (Str × Addr)) 
    (h : lateK T A env ℓ H elt target iter scope cl pos (fun D H' => K (.ref D) H'))
    (hclos : closureFor scope env = pure cl := by rfl) (hcell : ∀ x ∈ scope.names, x.2 ≠ .cell := by decide) (hkind : scope.kind = .function := by rfl) (hnames : ∀ x ∈ scope.names, x.2 = .local → scope.names.lookup x.1 = some .local := by decide)
    (hs : ∀ x, foldedSetIterable iter env x = pure x := by intro _; rfl) : Ev T A env ℓ H (.ListComp elt [⟨target, iter, [], 0⟩] scope pos) K := by
  refine ⟨fun s k => ?_⟩
  rw [eval_ListComp]
  refine comp_any (use := none) k h ?_ hclos hcell hkind hnames hs
  intro D L ℓ' H' s' hK k' g'
  obtain ⟨e, ⟨m, hm, _⟩, _⟩ := loc_of k'
  refine ⟨m, hm, fun h' hsb => ?_⟩
  obtain ⟨k₂, g₂⟩ := Ok.comp (own_comp ..) k' hsb
  exact PostG.inI (v := .ref D) hK rfl k₂ (g'.trans g₂)
/-- a comprehension bound to a local name at once -/
theorem Ex_comp {T : TI} {A : Around} {env : Env} {ℓ : Lo} {H : Cs} {elt target iter : Expr} {scope : Scope} {pos pos' spos : Pos} {y : Str} {K} (cl : List (Str × Addr)) 
    (h : lateK T A env ℓ H elt target iter scope cl pos (fun D H' => ∃ ℓ', Upd y (.ref D) ℓ ℓ' ∧ K .next ℓ' H'))
    (hl : env.kindOf y = some .local := by kernel_rfl) (hk' : env.scope.kind = .function := by rfl)
    (hsw : swapsWith (.ListComp elt [⟨target, iter, [], 0⟩] scope pos) (some (.Name y pos')) spos.line env = pure true := by rfl)
    (hclos : closureFor scope env = pure cl := by rfl) (hcell : ∀ x ∈ scope.names, x.2 ≠ .cell := by decide) (hkind : scope.kind = .function := by rfl) (hnames : ∀ x ∈ scope.names, x.2 = .local → scope.names.lookup x.1 = some .local := by decide)
    (hs : ∀ x, foldedSetIterable iter env x = pure x := by intro _; rfl) : Ex T A env ℓ H (.Assign [.Name y pos'] (.ListComp elt [⟨target, iter, [], 0⟩] scope pos) spos) K := by
  refine ⟨fun s k => ?_⟩
  rw [exec_Assign_Name_used _ _ _ _ hsw]
  refine wpAny_bind (wpAny_standAt (wpAny_bind ?_))
  show wpAny _ A (do let _ ← comprehension (.ListComp elt [⟨target, iter, [], 0⟩] scope pos) scope env _ (newList []) false (eval iter env) (some (assign (.Name y pos') env))) _ _ s
  refine wpAny_bind (wpAny_mono (comp_any (use := some (assign (.Name y pos') env)) (Q := fun _ s' => PostG T (lc env ℓ :: H) s.heap RelF (fun f C' => ∃ ℓ' H', C' = lc env ℓ' :: H' ∧ K f ℓ' H') .next s') k h ?_ hclos hcell hkind hnames hs) (fun _ s' hq => wpAny_pure (wpAny_pure hq)) fun _ _ e => e)
  rintro D L ℓ' H' s' ⟨ℓ₂, u, hK⟩ k' g'
  have p : (lc (compEnvC scope cl L env) ℓ' :: lc env ℓ :: H').Perm (lc env ℓ :: lc (compEnvC scope cl L env) ℓ' :: H') := .swap _ _ _
  show wpAny _ A (assign (.Name y pos') env (.ref D)) _ _ _
  rw [arm_assign_Name]
  refine wpAny_bind (wpAny_standAt (wpAny_bindName (store_ok u (k'.perm p) (v := .ref D) rfl hk' (.inl hl) fun s₂ k₂ g₂ => ?_)))
  have p₂ : (lc env ℓ₂ :: lc (compEnvC scope cl L env) ℓ' :: H').Perm (lc (compEnvC scope cl L env) ℓ' :: lc env ℓ₂ :: H') := .swap _ _ _
  have k₃ := k₂.perm p₂
  obtain ⟨e, ⟨m, hm, _⟩, _⟩ := loc_of k₃
  refine ⟨m, hm, fun h' hsb => ?_⟩
  obtain ⟨k₄, g₄⟩ := Ok.comp (own_comp ..) k₃ hsb
  exact PostG.stI (v := .next) hK rfl k₄ ((((g'.permR p).trans g₂).permR p₂).trans g₄)
end Mine
end
section
open PySem PySem.Spec PySem.Calls PyProof.Rows PySem.P
namespace Mine
section
variable {T : TI} {A : Around} {env : Env} {ℓ : Lo} {H : Cs}
theorem Ev_free {x : Str} {pos : Pos} {i : Nat} {f c : Addr} {fd : FuncData} {v : V} {K} (hi : H[i]? = some (f, .clo fd c v)) (h : K v H)
    (hl : env.kindOf x = some .free := by kernel_rfl) (hc : env.cells.lookup x = some c := by rfl) (hk' : env.scope.kind = .function := by rfl) (hn : (x == ("__classdict__" : Str)) = false := by decide) (hd : (x == ("__debug__" : Str)) = false := by decide) : Ev T A env ℓ H (.Name x pos) K := by
  refine ⟨fun s k => ?_⟩
  have hi' : (lc env ℓ :: H)[i + 1]? = some (f, Cell.clo fd c v) := by simpa using hi
  obtain ⟨_, y, hy, r⟩ := cell_at k hi'
  exact wpAny_Name (wpAny_loadName_free hk' hl hc hy (PostG.inI (v := v) h r k (Go.refl _ _)) hn) hd
theorem Ev_outer {x : Str} {pos : Pos} {i : Nat} {L c : Addr} {env' : Env} {ℓ' : Lo} {v : V} {K} (hi : H[i]? = some (L, .loc env' ℓ')) (hv : ℓ'.lookup x = some v) (h : K v H)
    (hl' : env'.kindOf x = some .cell := by kernel_rfl) (hc' : env'.cells.lookup x = some c := by rfl)
    (hl : env.kindOf x = some .cell := by kernel_rfl) (hc : env.cells.lookup x = some c := by rfl) (hk' : env.scope.kind = .function := by rfl) (hd : (x == ("__debug__" : Str)) = false := by decide) : Ev T A env ℓ H (.Name x pos) K := by
  refine ⟨fun s k => ?_⟩
  have hi' : (lc env ℓ :: H)[i + 1]? = some (L, Cell.loc env' ℓ') := by simpa using hi
  obtain ⟨_, ⟨m, _, hm⟩, _⟩ := cell_at k hi'
  rcases hm x v hv with ⟨e, _⟩ | ⟨_, c₂, y, hc₂, _, hy, r⟩
  · rw [hl'] at e; cases e
  · rw [hc'] at hc₂; cases hc₂
    exact wpAny_Name (wpAny_loadName_cell hk' hl hc hy (PostG.inI (v := v) h r k (Go.refl _ _))) hd
theorem Ev_cell {x : Str} {pos : Pos} {v : V} {K} (hv : ℓ.lookup x = some v) (h : K v H)
    (hl : env.kindOf x = some .cell := by kernel_rfl) (hk' : env.scope.kind = .function := by rfl) (hd : (x == ("__debug__" : Str)) = false := by decide) : Ev T A env ℓ H (.Name x pos) K := by
  refine ⟨fun s k => ?_⟩
  obtain ⟨_, ⟨m, _, hm⟩, _⟩ := loc_of k
  rcases hm x v hv with ⟨e, _⟩ | ⟨_, c₂, y, hc₂, _, hy, r⟩
  · rw [hl] at e; cases e
  · exact wpAny_Name (wpAny_loadName_cell hk' hl hc₂ hy (PostG.inI (v := v) h r k (Go.refl _ _))) hd
theorem Ex_assignC {x : Str} {pos' pos : Pos} {c : Addr} {e : Expr} {K} (h : Ev T A env ℓ H e fun v H₁ => ∃ ℓ', Upd x v ℓ ℓ' ∧ K .next ℓ' H₁)
    (hc : env.cells = [(x, c)] := by rfl) (ho : ownCells env = [c] := by rfl)
    (hl : env.kindOf x = some .cell := by kernel_rfl) (hk' : env.scope.kind = .function := by rfl) (hs : swapsWith e (some (.Name x pos')) pos.line env = pure false := by rfl) : Ex T A env ℓ H (.Assign [.Name x pos'] e pos) K := by
  refine ⟨fun s k => ?_⟩
  refine wpAny_Assign_Name (wpAny_mono (h.run s k) ?_ fun _ _ e => e) hs
  refine fun y s₁ p₀ => p₀.inE fun v H₁ hh₀ r₁ k₁ g₁ => ?_
  obtain ⟨ℓ', u, hK⟩ := hh₀
  refine store_ok u k₁ r₁ hk' (.inr ⟨hl, c, by rw [hc]; simp, by rw [ho]; exact .head _, fun x' c' e _ => ?_⟩) fun s' k' g' => PostG.stI (v := .next) hK rfl k' (g₁.trans g')
  rw [hc, List.lookup_cons] at e
  cases hb : x' == x with
  | true => exact beq_iff_eq.mp hb
  | false => rw [hb] at e; cases e
end
/-- how a frame is left -/
noncomputable def Turn (T : TI) (env : Env) (ℓ : Lo) (H H'' : Cs) : Prop := ∀ s, Ok T (lc env ℓ :: H) s → Ok T H'' s ∧ Go (lc env ℓ :: H) s.heap H'' s.heap
theorem Turn.clo {T : TI} {env : Env} {ℓ : Lo} {H H'' : Cs} {i : Nat} {f c : Addr} {fd : FuncData} {x : Str} {v : V} (hi : H[i]? = some (f, .fn fd)) (hv : ℓ.lookup x = some v) (hs : H''.Sublist ((f, .clo fd c v) :: H.eraseIdx i))
    (hl : env.kindOf x = some .cell := by kernel_rfl) (ho : ownCells env = [c] := by rfl) : Turn T env ℓ H H'' := fun s k => by
  have p : (lc env ℓ :: H).Perm (lc env ℓ :: (f, .fn fd) :: H.eraseIdx i) := by
    obtain ⟨p, _⟩ := set_perm (y := (f, Cell.fn fd)) hi
    exact p.cons _
  have k₁ := k.perm p
  obtain ⟨_, ⟨m, _, hm⟩, _⟩ := loc_of k
  rcases hm x v hv with ⟨e, _⟩ | ⟨_, c₂, y, hc₂, hin, hy, r⟩
  · rw [hl] at e; cases e
  rw [ho] at hin
  cases List.mem_singleton.mp hin
  have hfn : CellAt T s.heap f (.fn fd) := k₁.cells (f, .fn fd) (.tail _ (.head _))
  have fe : foots (lc env ℓ :: (f, Cell.fn fd) :: H.eraseIdx i) = env.locals :: c :: f :: foots (H.eraseIdx i) := by
    rw [foots_cons, foots_cons]
    show (env.locals :: ownCells env) ++ ([f] ++ _) = _
    rw [ho]; rfl
  have fe' : foots ((f, Cell.clo fd c v) :: H.eraseIdx i) = f :: c :: foots (H.eraseIdx i) := by rw [foots_cons]; rfl
  have g : Go (lc env ℓ :: (f, Cell.fn fd) :: H.eraseIdx i) s.heap ((f, Cell.clo fd c v) :: H.eraseIdx i) s.heap := ⟨fun b o e _ => e, fun b hb => .inl (by
    rw [fe'] at hb; rw [fe]
    simp only [List.mem_cons] at hb ⊢
    rcases hb with h | h | h <;> simp [h])⟩
  have nd := k₁.nd
  rw [fe] at nd
  have k₂ : Ok T ((f, Cell.clo fd c v) :: H.eraseIdx i) s := k₁.mk' g (fun q hq => by
    rcases List.mem_cons.mp hq with rfl | hq
    · exact ⟨hfn, y, hy, r⟩
    · exact k₁.cells q (.tail _ (.tail _ hq))) (by
    rw [fe']
    have n1 := (List.nodup_cons.mp nd).2
    exact (List.Perm.swap _ _ _).nodup_iff.mp n1) rfl rfl
  obtain ⟨k₃, g₃⟩ := k₂.drop hs
  exact ⟨k₃, (g.permL p.symm).trans g₃⟩
theorem Turn.perm {T : TI} {env : Env} {ℓ : Lo} {H H₁ H₂ : Cs} (t : Turn T env ℓ H H₁) (p : H₁.Perm H₂) : Turn T env ℓ H H₂ := fun s k => let ⟨a, b⟩ := t s k; ⟨a.perm p, b.permR p⟩
section
variable {T : TI} {A : Around} {C : Cs}
/-- a def of one parameter whose frame has one cell -/
theorem CallC_cell1 {n : Nat} {a : Addr} {fd : FuncData} {body : List Stmt} {p y : Str} {v : V} {K} (d : DefAt T a fd body) (rm : Rm A (n + 1))
    (hbind : ∀ x, bindArgs fd ⟨[x], []⟩ = pure [(p, x)]) (hclo : fd.closure = []) (hp : fd.scope.names.lookup p = some .local) (hcf : ∀ k, cellsFrom k fd.scope.names [] = [(y, k)]) (hany : fd.scope.names.any (fun p => p.2 == .cell) = true)
    (h : ∀ L, Exs T (A.deeper (callEnvC fd L a)) (callEnvC fd L a) [(p, v)] C body (fun fl ℓ' H' => ∃ H'', Turn T (callEnvC fd L a) ℓ' H' H'' ∧ K (retV fl) H''))
    (hco : fd.scope.isCoroutine = false := by rfl) (hgen : fd.scope.isGenerator = false := by rfl) (hk : fd.scope.kind = .function := by rfl) : CallC T A C (.ref a) [v] K := by
  refine ⟨fun s xs k r => ?_⟩
  obtain ⟨x, ys, rfl, rx, r'⟩ := r.cons_inv
  cases r'.nil_inv
  obtain ⟨o, ho, hd⟩ := d.at'
  have hcl : ∀ L, (callEnvC fd L a).cells = [(y, L + 1)] := fun L => hcf (L + 1)
  have own : ∀ L, ownCells (callEnvC fd L a) = [L + 1] := fun L => by
    unfold ownCells
    rw [if_pos]
    · rw [hcl]; rfl
    · show (true && fd.scope.names.any _) = true
      rw [hany]; rfl
  have hlim : s.heap.NoLimit := let ⟨ht, m, hm, e⟩ := d.lim; ⟨m, Ns.top k hm ht, e⟩
  have hcd : s.heap.CodeRec fd.code fd.qualname := let ⟨c, o, vs, t, e, hc, ho, r⟩ := d.code; ⟨c, o, vs, t, e, k.top _ _ ho hc, r⟩
  refine codeAny_call_cells rm.lt (k.top _ _ ho d.ne) hd hlim hcd d.body (hbind x) hclo (fun z hz => by cases List.mem_singleton.mp hz; exact .inl hp) (fun s₁ ic => ?_) hco hgen hk
  obtain ⟨h₁, tk, rfl⟩ := ic.toInCall.same
  have gr : Grow s { s with heap := h₁, toks := tk } := ⟨ic.toInCall.keep, rfl, rfl⟩
  have hkl : (callEnvC fd s.heap.objs.size a).kindOf p = some .local := hp
  have hcellat := ic.cell y (s.heap.objs.size + 1) (by rw [hcl]; simp)
  obtain ⟨k₀, g₀⟩ := k.add gr (a := s.heap.objs.size) (c := .loc (callEnvC fd s.heap.objs.size a) [(p, v)])
    ⟨rfl, ⟨_, ic.toInCall.ns, fun z w hz => by
      rw [List.lookup_cons] at hz
      cases hb : z == p with
      | false => rw [hb] at hz; cases hz
      | true =>
        rw [hb] at hz; cases hz
        cases beq_iff_eq.mp hb
        exact .inl ⟨hkl, x, by unfold bindL bindL; rw [if_pos hkl]; simp, rx.keep gr.tup⟩⟩, fun c hc => by
      rw [own] at hc; cases List.mem_singleton.mp hc
      exact ⟨_, hcellat⟩⟩
    (fun b hb => by
      simp only [foot, own, List.mem_cons, List.not_mem_nil, or_false] at hb
      rcases hb with rfl | rfl
      · exact get?_end _
      · exact Heap.get?_none_of_le (Nat.le_succ _)) (by simp [foot, own])
  refine wpAny_mono ((h s.heap.objs.size).run _ k₀) ?_ fun _ _ e => e.elim
  refine fun f s' p₀ => p₀.stE fun fl ℓ' H' hh₀ rf k' g' => ?_
  obtain ⟨H'', ht, hK⟩ := hh₀
  obtain ⟨k₂, g₂⟩ := ht s' k'
  refine ⟨_, rfl, retV fl, H'', hK, ?_, k₂, (g₀.trans g').trans g₂⟩
  cases fl with
  | next => cases rf; rfl
  | brk => cases rf; rfl
  | cont => cases rf; rfl
  | ret v => obtain ⟨x, rfl, rx⟩ := rf; exact rx
/-- a closure of one parameter, called -/
theorem CallC_clo {n : Nat} {i j : Nat} {f c c' tb : Addr} {pos : Pos} {q : Str} {fd : FuncData} {body : List Stmt} {p : Str} {v u : V} {K} (hi : C[i]? = some (f, .clo fd c u)) (hj : C[j]? = some (tb, .tab1 c' pos q)) (rm : Rm A (n + 1))
    (hlim : cStatics ≠ T.tb ∧ ∃ m, T.h₁.Ns cStatics m ∧ m "sys.recursionlimit" = none) (hcode : fd.code = .ref c') (hq : fd.qualname = q) (hbody : fd.body = .stmts body)
    (hbind : ∀ x, bindArgs fd ⟨[x], []⟩ = pure [(p, x)]) (hp : fd.scope.names.lookup p = some .local) (hcell : ∀ x ∈ fd.scope.names, x.2 ≠ .cell)
    (h : ∀ L, Exs T (A.deeper (callEnv fd L f)) (callEnv fd L f) [(p, v)] C body (fun fl _ H' => ∃ H'', H''.Sublist H' ∧ K (retV fl) H''))
    (hco : fd.scope.isCoroutine = false := by rfl) (hgen : fd.scope.isGenerator = false := by rfl) (hk : fd.scope.kind = .function := by rfl) : CallC T A C (.ref f) [v] K := by
  refine ⟨fun s xs k r => ?_⟩
  obtain ⟨x, ys, rfl, rx, r'⟩ := r.cons_inv
  cases r'.nil_inv
  obtain ⟨⟨o, ho, _, hd⟩, _⟩ := cell_at k hi
  obtain ⟨_, _, oc, vs, t, hoc, hod, hov⟩ := cell_at k hj
  have own : ∀ L, ownCells (callEnv fd L f) = [] := fun L => by
    unfold ownCells
    rw [if_neg]
    simp only [Bool.and_eq_true, List.any_eq_true, not_exists, not_and]
    intro _ x hx e
    exact hcell x hx (by simpa using e)
  have hlim : s.heap.NoLimit := let ⟨ht, m, hm, e⟩ := hlim; ⟨m, Ns.top k hm ht, e⟩
  have hcd : s.heap.CodeRec fd.code fd.qualname := ⟨c', oc, vs, t, hcode, hoc, hod, by rw [hq]; exact hov⟩
  refine (codeAny_call_def rm.lt ho hd hlim hcd hbody (BindsTo.of_eq (hbind x)) hcell (fun z hz => by cases List.mem_singleton.mp hz; exact hp) (fun h₀ hns hkp => ?_) hco hgen hk)
  have gr : Grow s { s with heap := h₀, toks := s.toks + [(p, x)].length } := ⟨hkp, rfl, rfl⟩
  obtain ⟨k₀, g₀⟩ := k.add gr (a := s.heap.objs.size) (c := .loc (callEnv fd s.heap.objs.size f) [(p, v)])
    ⟨rfl, ⟨_, hns, fun z w hz => by
      rw [List.lookup_cons] at hz
      cases hb : z == p with
      | false => rw [hb] at hz; cases hz
      | true =>
        rw [hb] at hz; cases hz
        cases beq_iff_eq.mp hb
        exact .inl ⟨hp, x, by simp, rx.keep gr.tup⟩⟩, fun c hc => by rw [own] at hc; cases hc⟩
    (fun b hb => by
      simp only [foot, own, List.mem_cons, List.not_mem_nil, or_false] at hb
      subst hb; exact get?_end _) (by simp [foot, own])
  refine wpAny_mono ((h s.heap.objs.size).run _ k₀) ?_ fun _ _ e => e.elim
  refine fun f s' p₀ => p₀.stE fun fl ℓ' H' hh₀ rf k' g' => ?_
  obtain ⟨H'', hs, hK⟩ := hh₀
  obtain ⟨k₂, g₂⟩ := k'.drop (C' := H'') (hs.trans (List.sublist_cons_self _ _))
  refine ⟨_, rfl, retV fl, H'', hK, ?_, k₂, (g₀.trans g').trans g₂⟩
  cases fl with
  | next => cases rf; rfl
  | brk => cases rf; rfl
  | cont => cases rf; rfl
  | ret v => obtain ⟨x, rfl, rx⟩ := rf; exact rx
theorem clo_callee {i : Nat} {f c : Addr} {fd : FuncData} {u : V} (hi : C[i]? = some (f, .clo fd c u)) : Callee T C (.ref f) := .inr (.inr ⟨f, rfl, fun s k => by
  obtain ⟨⟨o, ho, _, hd⟩, _⟩ := cell_at k hi
  exact ⟨_, .inl rfl, keeper_fn ho hd⟩⟩)
/-- what a nested def needs of the top -/
structure NestAt (T : TI) (mg : Str → Option Value) : Prop where
  ns : T.h₁.Ns mainGlobals mg
  ne : mainGlobals ≠ T.tb
  code : PySem.W.CodeHd T.h₁ T.tc T.tb
  built : T.h₁.BuiltinsAt mg T.tb
theorem Ex_def {env : Env} {ℓ : Lo} {H : Cs} {name : Str} {params : Arguments} {body : List Stmt} {scope : Scope} {pos : Pos} {mg : Str → Option Value} {j : Nat} {clos : List (Str × Addr)} {K} (N : NestAt T mg)
    (hj : H[j]? = some (T.tb, .tab) ∨ ∃ c', H[j]? = some (T.tb, .tab1 c' pos (qualnameIn env name name)))
    (hg : env.globals = mainGlobals) (hcode : env.code = .ref T.tc) (hcl : closureFor scope env = pure clos)
    (h : ∀ f c' doc ctv, (∀ c0, H[j]? = some (T.tb, .tab1 c0 pos (qualnameIn env name name)) → c' = c0) → ∃ ℓ', Upd name (.ref f) ℓ ℓ' ∧ K .next ℓ' ((f, .fn (PySem.W.fnX name (qualnameIn env name name) params body scope clos .none .none doc ((mg "__name__").getD .none) none (.ref c') ctv)) :: H.set j (T.tb, .tab1 c' pos (qualnameIn env name name))))
    (hl : env.kindOf name = some .local := by kernel_rfl) (hk' : env.scope.kind = .function := by rfl) (hd0 : params.defaults = [] := by rfl) (hk0 : params.kw_defaults = [] := by rfl) (ha : annTrees params none env = [] := by rfl) :
    Ex T A env ℓ H (.FunctionDef name params body [] none [] scope none name pos) K := by
  refine ⟨fun s k => ?_⟩
  refine PySem.W.nestDef_K hd0 hk0 ha ?_
  have hns := Ns.top k N.ns N.ne
  obtain ⟨bm, ob, b1, b2, b3, b4, b5, b6⟩ := N.built
  have hb : s.heap.BuiltinsAt mg T.tb := ⟨bm, ob, b1, b2, b3, b4, k.top _ _ b5 b4, b6⟩
  have hC : PySem.W.CodeHd s.heap T.tc T.tb := by
    obtain ⟨o, vs, file, tf, flags, tg, inF, text, tt, e, r⟩ := N.code
    exact ⟨o, vs, file, tf, flags, tg, inF, text, tt, k.top _ _ e r.2.2.2.2.2.2.2.2, r⟩
  rcases hj with hj | ⟨c', hj⟩
  · have hj' : (lc env ℓ :: H)[j + 1]? = some (T.tb, Cell.tab) := by simpa using hj
    obtain ⟨ht, hP⟩ := cell_at k hj'
    refine PySem.W.makeFunction_K (P := T.tb) (ps := #[]) hcl hg hns hcode hC hP trivial rfl N.ne hb fun c' ctv doc h' tk hx hge hlt hrec htb => ?_
    obtain ⟨c₂, oc, vs, t, e2, hoc, hd, hv⟩ := hrec
    cases e2
    have hc0 : s.heap.get? c' = none := Heap.get?_none_of_le hge
    have htl : T.tb < s.heap.objs.size := Heap.lt_size hP
    have htc : T.tb ≠ c' := Nat.ne_of_lt (Nat.lt_of_lt_of_le htl hge)
    have hfc : h'.objs.size ≠ c' := (Nat.ne_of_lt hlt).symm
    have hft : h'.objs.size ≠ T.tb := (Nat.ne_of_lt (Nat.lt_trans (Nat.lt_of_lt_of_le htl hge) hlt)).symm
    have hf0 : s.heap.get? h'.objs.size = none := Heap.get?_none_of_le (Nat.le_of_lt (Nat.lt_of_le_of_lt hge hlt))
    obtain ⟨p, p'⟩ := set_perm (y := (T.tb, Cell.tab1 c' pos (qualnameIn env name name))) hj'
    have k₁ : Ok T ([(T.tb, Cell.tab)] ++ (lc env ℓ :: H).eraseIdx (j + 1)) s := k.perm p
    let fo : Obj := PySem.W.fnMade name (qualnameIn env name name) params body scope clos doc ((mg "__name__").getD .none) c' ctv
    let s₂ : Shared := { s with heap := h'.push fo, toks := tk }
    have g : Go [(T.tb, Cell.tab)] s.heap [(h'.objs.size, Cell.fn (PySem.W.fnX name (qualnameIn env name name) params body scope clos .none .none doc ((mg "__name__").getD .none) none (.ref c') ctv)), (T.tb, Cell.tab1 c' pos (qualnameIn env name name))] s₂.heap :=
      ⟨fun b o e hb => Heap.get?_push_of_some _ (hx b o (fun z => hb (by rw [z]; exact .head _)) e), fun b hb => by
        have : b = h'.objs.size ∨ b = T.tb ∨ b = c' := by simpa [foots, foot] using hb
        rcases this with rfl | rfl | rfl
        · exact .inr hf0
        · exact .inl (.head _)
        · exact .inr hc0⟩
    have k₂ : Ok T [(h'.objs.size, Cell.fn (PySem.W.fnX name (qualnameIn env name name) params body scope clos .none .none doc ((mg "__name__").getD .none) none (.ref c') ctv)), (T.tb, Cell.tab1 c' pos (qualnameIn env name name))] s₂ := k₁.left.mk' g (fun q hq => by
      simp only [List.mem_cons, List.not_mem_nil, or_false] at hq
      rcases hq with rfl | rfl
      · exact ⟨_, Heap.get?_push_size _ rfl, rfl, rfl⟩
      · exact ⟨ht, Heap.get?_push_of_some _ (show h'.get? T.tb = some (PySem.W.tabObj #[rawInt pos.line, rawInt pos.col, .ref c']) by simpa using htb), oc, vs, t, Heap.get?_push_of_some _ hoc, hd, hv⟩) (by
      show ([h'.objs.size] ++ ([T.tb, c'] ++ [])).Nodup
      simp [hfc, hft, htc]) rfl rfl
    obtain ⟨k₃, g₃⟩ := k₁.frame k₂ g
    obtain ⟨ℓ', u, hK⟩ := h h'.objs.size c' doc ctv (fun c0 e => by rw [hj] at e; cases e)
    have q : ([(h'.objs.size, Cell.fn (PySem.W.fnX name (qualnameIn env name name) params body scope clos .none .none doc ((mg "__name__").getD .none) none (.ref c') ctv)), (T.tb, Cell.tab1 c' pos (qualnameIn env name name))] ++ (lc env ℓ :: H).eraseIdx (j + 1)).Perm
        (lc env ℓ :: (h'.objs.size, Cell.fn (PySem.W.fnX name (qualnameIn env name name) params body scope clos .none .none doc ((mg "__name__").getD .none) none (.ref c') ctv)) :: H.set j (T.tb, Cell.tab1 c' pos (qualnameIn env name name))) := by
      refine List.Perm.trans (List.Perm.cons _ p') ?_
      exact .swap _ _ _
    refine store_ok u (k₃.perm q) (v := .ref h'.objs.size) rfl hk' (.inl hl) fun s' k' g' => PostG.stI (v := .next) hK rfl k' (((g₃.permL p.symm).permR q).trans g')
  · have hj' : (lc env ℓ :: H)[j + 1]? = some (T.tb, Cell.tab1 c' pos (qualnameIn env name name)) := by simpa using hj
    obtain ⟨ht, hP, hrec⟩ := cell_at k hj'
    refine PySem.W.makeFunction_hit (cv := .ref c') (P := T.tb) (ps := #[rawInt pos.line, rawInt pos.col, .ref c']) hcl hg hns hcode hC hP trivial (by simp [codeAmong, rawInt]) hb fun ctv doc h' tk hk hsz => ?_
    obtain ⟨ℓ', u, hK⟩ := h h'.objs.size c' doc ctv (fun c0 e => by rw [hj] at e; cases e; rfl)
    have gr : Grow s { s with heap := h'.push { cls := .type "function", data := .func (PySem.W.fnX name (qualnameIn env name name) params body scope clos .none .none doc ((mg "__name__").getD .none) none (.ref c') ctv) }, toks := tk } := ⟨fun b o e => Heap.get?_push_of_some _ (hk b o e), rfl, rfl⟩
    obtain ⟨k₂, g₂⟩ := k.add gr (a := h'.objs.size) (c := .fn (PySem.W.fnX name (qualnameIn env name name) params body scope clos .none .none doc ((mg "__name__").getD .none) none (.ref c') ctv)) ⟨_, Heap.get?_push_size _ rfl, rfl, rfl⟩ (fun b hb => by cases List.mem_singleton.mp hb; exact Heap.get?_none_of_le hsz) (by simp [foot])
    have hset : H.set j (T.tb, Cell.tab1 c' pos (qualnameIn env name name)) = H := by
      apply List.ext_getElem?
      intro i
      rw [List.getElem?_set]
      split
      · rename_i e; subst e
        split
        · exact hj.symm
        · rename_i hh; rw [List.getElem?_eq_none (by omega)]
      · rfl
    rw [hset] at hK
    have q : ∀ z : Addr × Cell, (z :: lc env ℓ :: H).Perm (lc env ℓ :: z :: H) := fun z => .swap _ _ _
    refine store_ok u (k₂.perm (q _)) (v := .ref h'.objs.size) rfl hk' (.inl hl) fun s' k' g' => PostG.stI (v := .next) hK rfl k' ((g₂.permR (q _)).trans g')
end
end Mine
end
section
open PySem PySem.W PyProof.Rows
namespace Mine
noncomputable def goT (lt : Nat → Nat → Bool) {α : Type} : KasT α → α
  | .ret a => a
  | .ask i j k => goT lt (k (lt i j))
theorem goT_bind (lt : Nat → Nat → Bool) {α β : Type} (f : α → KasT β) : ∀ t : KasT α, goT lt (t.bind f) = goT lt (f (goT lt t))
  | .ret a => rfl
  | .ask i j k => goT_bind lt f (k (lt i j))
structure LtN (n : Nat) (lt : Nat → Nat → Bool) : Prop where
  trans : ∀ i j k, i < n → j < n → k < n → lt i j = true → lt j k = true → lt i k = true
  tot : ∀ i j, i < n → j < n → i ≠ j → lt i j = true ∨ lt j i = true
  asym : ∀ i j, i < n → j < n → lt i j = true → lt j i = false
structure Gd (n : Nat) (p : Array Nat) : Prop where
  size : p.size = n
  lt : ∀ i, i < n → p.getD i 0 < n
  inj : ∀ i j, i < n → j < n → p.getD i 0 = p.getD j 0 → i = j
  perm : p.toList.Perm (List.range n)
theorem Gd.of {n : Nat} {p : Array Nat} (h : p.toList.Perm (List.range n)) : Gd n p := by
  have hsz : p.size = n := by simpa using h.length_eq
  have hnd : p.toList.Nodup := h.nodup_iff.mpr List.nodup_range
  have ge : ∀ i, (hi : i < n) → p.getD i 0 = p.toList[i]'(by simpa [hsz] using hi) := fun i hi => by simp [Array.getD, hsz, hi]
  refine ⟨hsz, fun i hi => ?_, fun i j hi hj e => ?_, h⟩
  · rw [ge i hi]
    have := h.mem_iff.mp (List.getElem_mem (l := p.toList) (by simpa [hsz] using hi))
    simpa using this
  · rw [ge i hi, ge j hj] at e
    have pw := List.pairwise_iff_getElem.mp hnd
    rcases Nat.lt_trichotomy i j with h | h | h
    · exact absurd e (pw i j _ _ h)
    · exact h
    · exact absurd e.symm (pw j i _ _ h)
theorem Gd.perm' {n : Nat} {p q : Array Nat} (g : Gd n p) (h : q.Perm p) : Gd n q := Gd.of ((Array.perm_iff_toList_perm.mp h).trans g.perm)
noncomputable def Srt (lt : Nat → Nat → Bool) (p : Array Nat) (k : Nat) : Prop := ∀ i j, i < j → j < k → lt (p.getD i 0) (p.getD j 0) = true
noncomputable def Dec (lt : Nat → Nat → Bool) (p : Array Nat) (k : Nat) : Prop := ∀ i j, i < j → j < k → lt (p.getD j 0) (p.getD i 0) = true
theorem getD_get {p : Array Nat} {i : Nat} : p.getD i 0 = (p[i]?).getD 0 := by simp [Array.getD_eq_getD_getElem?]
section
variable {n : Nat} {lt : Nat → Nat → Bool}
theorem asc_ok (L : LtN n lt) {p : Array Nat} (g : Gd n p) : ∀ (f k nr : Nat), f + k = nr → nr ≤ n → 1 ≤ k → Srt lt p k → k ≤ goT lt (kas_asc p f k) ∧ goT lt (kas_asc p f k) ≤ nr ∧ Srt lt p (goT lt (kas_asc p f k)) ∧
    (goT lt (kas_asc p f k) = nr ∨ lt (p.getD (goT lt (kas_asc p f k)) 0) (p.getD (goT lt (kas_asc p f k) - 1) 0) = true)
  | 0, k, nr, e, hn, h1, hs => ⟨Nat.le_refl _, by show k ≤ nr; omega, hs, .inl (by show k = nr; omega)⟩
  | f + 1, k, nr, e, hn, h1, hs => by
    unfold kas_asc
    show k ≤ goT lt (if lt (p.getD k 0) (p.getD (k - 1) 0) = true then _ else _) ∧ _
    by_cases hc : lt (p.getD k 0) (p.getD (k - 1) 0) = true
    · simp only [goT, hc, if_true]
      exact ⟨Nat.le_refl _, by omega, hs, .inr (by first | exact hc | trivial)⟩
    · have hc' : lt (p.getD k 0) (p.getD (k - 1) 0) = false := by simpa using hc
      simp only [goT, hc', Bool.false_eq_true, if_false]
      have hlt : lt (p.getD (k - 1) 0) (p.getD k 0) = true := by
        rcases L.tot _ _ (g.lt (k - 1) (by omega)) (g.lt k (by omega)) (fun e => by have := g.inj _ _ (by omega) (by omega) e; omega) with h | h
        · exact h
        · exact absurd h hc
      have ih := asc_ok L g f (k + 1) nr (by omega) hn (by omega) (fun i j hij hj => by
        by_cases hj' : j < k
        · exact hs i j hij hj'
        · have : j = k := by omega
          subst this
          by_cases hi : i = j - 1
          · subst hi; exact hlt
          · exact L.trans _ _ _ (g.lt i (by omega)) (g.lt (j - 1) (by omega)) (g.lt j (by omega)) (hs i (j - 1) (by omega) (by omega)) hlt)
      exact ⟨by omega, ih.2.1, ih.2.2.1, ih.2.2.2⟩
theorem desc_ok (L : LtN n lt) {p : Array Nat} (g : Gd n p) : ∀ (f k nr : Nat), f + k = nr → nr ≤ n → 1 ≤ k → Dec lt p k → ∃ m, goT lt (kas_desc f p k 0) = (p, m, 0) ∧ k ≤ m ∧ m ≤ nr ∧ Dec lt p m
  | 0, k, nr, e, hn, h1, hs => ⟨k, rfl, Nat.le_refl _, by omega, hs⟩
  | f + 1, k, nr, e, hn, h1, hs => by
    unfold kas_desc
    by_cases hc : lt (p.getD k 0) (p.getD (k - 1) 0) = true
    · simp only [goT, hc, if_true, show ¬ (0 > 0) by omega, if_false]
      obtain ⟨m, e1, e2, e3, e4⟩ := desc_ok L g f (k + 1) nr (by omega) hn (by omega) (fun i j hij hj => by
        by_cases hj' : j < k
        · exact hs i j hij hj'
        · have : j = k := by omega
          subst this
          by_cases hi : i = j - 1
          · subst hi; exact hc
          · exact L.trans _ _ _ (g.lt j (by omega)) (g.lt (j - 1) (by omega)) (g.lt i (by omega)) hc (hs i (j - 1) (by omega) (by omega)))
      exact ⟨m, e1, by omega, e3, e4⟩
    · have hc' : lt (p.getD k 0) (p.getD (k - 1) 0) = false := by simpa using hc
      have hlt : lt (p.getD (k - 1) 0) (p.getD k 0) = true := by
        rcases L.tot _ _ (g.lt (k - 1) (by omega)) (g.lt k (by omega)) (fun e => by have := g.inj _ _ (by omega) (by omega) e; omega) with h | h
        · exact h
        · exact absurd h hc
      simp only [goT, hc', Bool.false_eq_true, if_false, hlt, if_true]
      exact ⟨k, rfl, Nat.le_refl _, by omega, hs⟩
theorem rev_get {p : Array Nat} {m : Nat} (hm : m ≤ p.size) (k : Nat) : (kas_rev p 0 m).getD k 0 = if k < m then p.getD (m - 1 - k) 0 else p.getD k 0 := by
  unfold kas_rev
  rw [getD_get, getElem?_mirror_all hm k]
  by_cases h : k < m
  · simp only [h, if_true, Nat.zero_le, true_and]
    rw [getD_get]
    congr 2; omega
  · simp only [h, if_false, and_false]
    rw [getD_get]
theorem count_ok (L : LtN n lt) {p : Array Nat} (g : Gd n p) (hn : 1 ≤ n) : ∃ m q, goT lt (kas_count n p) = (m, q) ∧ 1 ≤ m ∧ m ≤ n ∧ Gd n q ∧ Srt lt q m := by
  unfold kas_count
  rw [goT_bind]
  obtain ⟨h1, h2, h3, h4⟩ := asc_ok L g (n - 1) 1 n (by omega) (Nat.le_refl _) (Nat.le_refl _) (fun i j hij hj => by omega)
  generalize goT lt (kas_asc p (n - 1) 1) = m at h1 h2 h3 h4 ⊢
  by_cases hm : m = n
  · rw [if_pos (by simpa using hm)]
    exact ⟨m, p, rfl, h1, h2, g, h3⟩
  · rw [if_neg (by simpa using hm)]
    have h4' : lt (p.getD m 0) (p.getD (m - 1) 0) = true := h4.resolve_left hm
    by_cases hm1 : m > 1
    · rw [if_pos hm1]
      have : lt (p.getD 0 0) (p.getD (m - 1) 0) = true := h3 0 (m - 1) (by omega) (by omega)
      simp only [goT, this, if_true]
      exact ⟨m, p, rfl, h1, h2, g, h3⟩
    · rw [if_neg hm1]
      have hm' : m = 1 := by omega
      subst hm'
      unfold kas_descPart
      rw [goT_bind]
      obtain ⟨m', e1, e2, e3, e4⟩ := desc_ok L g (n - (1 + 1)) (1 + 1) n (by omega) (Nat.le_refl _) (by omega) (fun i j hij hj => by
        have hi : i = 0 := by omega
        have hj' : j = 1 := by omega
        subst hi hj'
        exact h4')
      rw [e1]
      simp only [show ¬ (0 > 0) by omega, if_false]
      unfold kas_tail3
      rw [goT_bind]
      have g' : Gd n (kas_rev p 0 m') := g.perm' (mirror_perm _ _ _ _)
      obtain ⟨a1, a2, a3, a4⟩ := asc_ok L g' (n - m') m' n (by omega) (Nat.le_refl _) (by omega) (fun i j hij hj => by
        rw [rev_get (by rw [g.size]; omega), rev_get (by rw [g.size]; omega), if_pos (by omega), if_pos hj]
        exact e4 (m' - 1 - j) (m' - 1 - i) (by omega) (by omega))
      exact ⟨_, _, rfl, by omega, a2, g', a3⟩
theorem place_ok (L : LtN n lt) {p : Array Nat} (g : Gd n p) {k : Nat} (hk : k < n) (hs : Srt lt p k) : ∀ (f l r : Nat), r - l ≤ f → l ≤ r → r ≤ k → (∀ i, i < l → lt (p.getD i 0) (p.getD k 0) = true) → (∀ i, r ≤ i → i < k → lt (p.getD k 0) (p.getD i 0) = true) →
    goT lt (kas_place p k f l r) ≤ k ∧ (∀ i, i < goT lt (kas_place p k f l r) → lt (p.getD i 0) (p.getD k 0) = true) ∧ (∀ i, goT lt (kas_place p k f l r) ≤ i → i < k → lt (p.getD k 0) (p.getD i 0) = true)
  | 0, l, r, hf, hlr, hr, h1, h2 => by
    have : l = r := by omega
    subst this
    exact ⟨hr, h1, h2⟩
  | f + 1, l, r, hf, hlr, hr, h1, h2 => by
    unfold kas_place
    by_cases hge : l ≥ r
    · rw [if_pos hge]
      have : l = r := by omega
      subst this
      exact ⟨hr, h1, h2⟩
    · rw [if_neg hge]
      have hm1 : l ≤ (l + r) / 2 := by omega
      have hm2 : (l + r) / 2 < r := by omega
      generalize (l + r) / 2 = m at hm1 hm2 ⊢
      by_cases hc : lt (p.getD k 0) (p.getD m 0) = true
      · simp only [goT, hc, if_true]
        refine place_ok L g hk hs f l m (by omega) (by omega) (by omega) h1 fun i hi hik => ?_
        by_cases e : i = m
        · subst e; exact hc
        · exact L.trans _ _ _ (g.lt k hk) (g.lt m (by omega)) (g.lt i (by omega)) hc (hs m i (by omega) hik)
      · have hc' : lt (p.getD k 0) (p.getD m 0) = false := by simpa using hc
        have hlt : lt (p.getD m 0) (p.getD k 0) = true := by
          rcases L.tot _ _ (g.lt m (by omega)) (g.lt k (by omega)) (fun e => by have := g.inj _ _ (by omega) (by omega) e; omega) with h | h
          · exact h
          · exact absurd h hc
        simp only [goT, hc', Bool.false_eq_true, if_false]
        refine place_ok L g hk hs f (m + 1) r (by omega) (by omega) (by omega) (fun i hi => ?_) h2
        by_cases e : i = m
        · subst e; exact hlt
        · exact L.trans _ _ _ (g.lt i (by omega)) (g.lt m (by omega)) (g.lt k (by omega)) (hs i m (by omega) (by omega)) hlt
theorem bub_get {p : Array Nat} {k l : Nat} (hk : k < p.size) (hl : l ≤ k) (i : Nat) : (bubble p k (k - l)).getD i 0 = if i = l then p.getD k 0 else if l < i ∧ i ≤ k then p.getD (i - 1) 0 else p.getD i 0 := by
  rw [getD_get, getElem?_bubble hk (k - l) (by omega) i]
  rw [show k - (k - l) = l by omega]
  by_cases h1 : i = l
  · rw [if_pos h1, if_pos h1, getD_get]
  · rw [if_neg h1, if_neg h1]
    by_cases h2 : l < i ∧ i ≤ k
    · rw [if_pos h2, if_pos h2, getD_get]
    · rw [if_neg h2, if_neg h2, getD_get]
theorem bin_ok (L : LtN n lt) : ∀ (f k : Nat) (p : Array Nat), Gd n p → f + k = n → Srt lt p k → Gd n (goT lt (kas_bin f p k)) ∧ Srt lt (goT lt (kas_bin f p k)) n
  | 0, k, p, g, e, hs => by
    have : k = n := by omega
    subst this
    exact ⟨g, hs⟩
  | f + 1, k, p, g, e, hs => by
    unfold kas_bin
    rw [goT_bind]
    obtain ⟨a1, a2, a3⟩ := place_ok L g (k := k) (by omega) hs k 0 k (by omega) (by omega) (Nat.le_refl _) (fun i hi => by omega) (fun i h1 h2 => by omega)
    generalize goT lt (kas_place p k k 0 k) = l at a1 a2 a3 ⊢
    have hb := bub_get (p := p) (k := k) (l := l) (by rw [g.size]; omega) a1
    refine bin_ok L f (k + 1) _ (g.perm' (bubble_perm _ _ _)) (by omega) fun i j hij hj => ?_
    rw [hb i, hb j]
    by_cases hi : i = l
    · rw [if_pos hi, if_neg (by omega), if_pos (by omega)]
      exact a3 (j - 1) (by omega) (by omega)
    · rw [if_neg hi]
      by_cases hj' : j = l
      · rw [if_pos hj', if_neg (by omega)]
        exact a2 i (by omega)
      · rw [if_neg hj']
        by_cases h1 : l < i ∧ i ≤ k
        · rw [if_pos h1, if_pos (by omega)]
          exact hs (i - 1) (j - 1) (by omega) (by omega)
        · rw [if_neg h1]
          by_cases h2 : l < j ∧ j ≤ k
          · rw [if_pos h2]
            by_cases e' : i = j - 1
            · omega
            · exact hs i (j - 1) (by omega) (by omega)
          · rw [if_neg h2]
            exact hs i j hij (by omega)
theorem tree_sorts (L : LtN n lt) (hn : 1 ≤ n) : Gd n (goT lt (kas_sort n)) ∧ Srt lt (goT lt (kas_sort n)) n := by
  unfold kas_sort
  rw [goT_bind]
  obtain ⟨m, q, e, h1, h2, g, hs⟩ := count_ok L (Gd.of (p := (List.range n).toArray) (by simp)) hn
  rw [show (List.range n).toArray = List.toArray (List.range n) from rfl] at e
  rw [e]
  show Gd n (goT lt (if m < n then _ else _)) ∧ Srt lt (goT lt (if m < n then _ else _)) n
  by_cases hm : m < n
  · rw [if_pos hm]
    rw [show max m 1 = m by omega]
    exact bin_ok L (n - m) m q g (by omega) hs
  · rw [if_neg hm]
    have : m = n := by omega
    subst this
    exact ⟨g, hs⟩
end
/-- the questions asked are about the items -/
noncomputable def PathIn (n : Nat) (lt : Nat → Nat → Bool) {α : Type} : KasT α → Prop
  | .ret _ => True
  | .ask i j k => i < n ∧ j < n ∧ PathIn n lt (k (lt i j))
theorem PathIn.bind {n : Nat} {lt : Nat → Nat → Bool} {α β : Type} {f : α → KasT β} : ∀ {t : KasT α}, PathIn n lt t → PathIn n lt (f (goT lt t)) → PathIn n lt (t.bind f)
  | .ret a, _, h => h
  | .ask i j k, ⟨h1, h2, h3⟩, h => ⟨h1, h2, PathIn.bind h3 h⟩
noncomputable def Ent (n : Nat) (p : Array Nat) : Prop := (∀ x ∈ p.toList, x < n) ∧ 0 < n
theorem Ent.get {n : Nat} {p : Array Nat} (e : Ent n p) (i : Nat) : p.getD i 0 < n := by
  rw [getD_get]
  cases h : p[i]? with
  | none => exact e.2
  | some x =>
    have : x ∈ p.toList := by
      rw [← Array.getElem?_toList] at h
      exact List.mem_of_getElem? h
    exact e.1 x this
theorem Ent.perm {n : Nat} {p q : Array Nat} (e : Ent n p) (h : q.Perm p) : Ent n q := ⟨fun x hx => e.1 x ((Array.perm_iff_toList_perm.mp h).mem_iff.mp hx), e.2⟩
section
variable {n : Nat} {lt : Nat → Nat → Bool}
theorem asc_in {p : Array Nat} (e : Ent n p) : ∀ f k, PathIn n lt (kas_asc p f k)
  | 0, k => trivial
  | f + 1, k => by
    unfold kas_asc
    refine ⟨e.get _, e.get _, ?_⟩
    dsimp only
    split
    · exact trivial
    · exact asc_in e f (k + 1)
theorem desc_in : ∀ f (p : Array Nat) k q, Ent n p → PathIn n lt (kas_desc f p k q) ∧ (goT lt (kas_desc f p k q)).1.Perm p
  | 0, p, k, q, e => ⟨trivial, Array.Perm.refl _⟩
  | f + 1, p, k, q, e => by
    unfold kas_desc
    simp only [PathIn, goT]
    by_cases hc : lt (p.getD k 0) (p.getD (k - 1) 0) = true
    · simp only [hc, if_true]
      by_cases hq : q > 0
      · simp only [hq, if_true]
        have pm : (kas_rev p (k - (q + 1)) k).Perm p := mirror_perm _ _ _ _
        have ih := desc_in f (kas_rev p (k - (q + 1)) k) (k + 1) 0 (e.perm pm)
        exact ⟨⟨e.get _, e.get _, ih.1⟩, ih.2.trans pm⟩
      · simp only [hq, if_false]
        have ih := desc_in f p (k + 1) 0 e
        exact ⟨⟨e.get _, e.get _, ih.1⟩, ih.2⟩
    · have hc' : lt (p.getD k 0) (p.getD (k - 1) 0) = false := by simpa using hc
      simp only [hc', Bool.false_eq_true, if_false, PathIn, goT]
      by_cases hd : lt (p.getD (k - 1) 0) (p.getD k 0) = true
      · simp only [hd, if_true, PathIn, goT]
        exact ⟨⟨e.get _, e.get _, e.get _, e.get _, trivial⟩, Array.Perm.refl _⟩
      · have hd' : lt (p.getD (k - 1) 0) (p.getD k 0) = false := by simpa using hd
        simp only [hd', Bool.false_eq_true, if_false]
        have ih := desc_in f p (k + 1) (q + 1) e
        exact ⟨⟨e.get _, e.get _, e.get _, e.get _, ih.1⟩, ih.2⟩
theorem tail_in {p : Array Nat} (e : Ent n p) (a b : Nat) : PathIn n lt (kas_tail3 a b p) ∧ (goT lt (kas_tail3 a b p)).2.Perm p := by
  unfold kas_tail3
  have pm : (kas_rev p 0 a).Perm p := mirror_perm _ _ _ _
  refine ⟨PathIn.bind (asc_in (e.perm pm) _ _) trivial, ?_⟩
  rw [goT_bind]; exact pm
theorem descPart_in {p : Array Nat} (e : Ent n p) (a b : Nat) : PathIn n lt (kas_descPart a b p) ∧ (goT lt (kas_descPart a b p)).2.Perm p := by
  unfold kas_descPart
  obtain ⟨d1, d2⟩ := desc_in (lt := lt) (b - (a + 1)) p (a + 1) 0 e
  rw [goT_bind]
  refine ⟨PathIn.bind d1 ?_, ?_⟩
  · split
    · exact (tail_in ((e.perm d2).perm (mirror_perm _ _ _ _)) _ _).1
    · exact (tail_in (e.perm d2) _ _).1
  · split
    · exact ((tail_in ((e.perm d2).perm (mirror_perm _ _ _ _)) _ _).2.trans (mirror_perm _ _ _ _)).trans d2
    · exact (tail_in (e.perm d2) _ _).2.trans d2
theorem count_in {p : Array Nat} (e : Ent n p) (b : Nat) : PathIn n lt (kas_count b p) ∧ (goT lt (kas_count b p)).2.Perm p := by
  unfold kas_count
  rw [goT_bind]
  have key : PathIn n lt ((fun k => if (k == b) = true then KasT.ret (k, p) else if k > 1 then .ask (p.getD 0 0) (p.getD (k - 1) 0) fun c => if c = true then .ret (k, p) else kas_descPart k b (kas_rev p 0 k)
    else kas_descPart k b p) (goT lt (kas_asc p (b - 1) 1))) ∧ (goT lt ((fun k => if (k == b) = true then KasT.ret (k, p) else if k > 1 then .ask (p.getD 0 0) (p.getD (k - 1) 0) fun c => if c = true then .ret (k, p) else kas_descPart k b (kas_rev p 0 k)
    else kas_descPart k b p) (goT lt (kas_asc p (b - 1) 1)))).2.Perm p := by
    generalize goT lt (kas_asc p (b - 1) 1) = m
    dsimp only
    split
    · exact ⟨trivial, Array.Perm.refl _⟩
    · split
      · simp only [PathIn, goT]
        split
        · exact ⟨⟨e.get _, e.get _, trivial⟩, Array.Perm.refl _⟩
        · have pm : (kas_rev p 0 m).Perm p := mirror_perm _ _ _ _
          have d := descPart_in (lt := lt) (e.perm pm) m b
          exact ⟨⟨e.get _, e.get _, d.1⟩, d.2.trans pm⟩
      · exact descPart_in e m b
  exact ⟨PathIn.bind (asc_in e _ _) key.1, key.2⟩
theorem place_in {p : Array Nat} (e : Ent n p) (k : Nat) : ∀ f l r, PathIn n lt (kas_place p k f l r)
  | 0, l, r => trivial
  | f + 1, l, r => by
    unfold kas_place
    split
    · exact trivial
    · refine ⟨e.get _, e.get _, ?_⟩
      dsimp only
      split
      · exact place_in e k f _ _
      · exact place_in e k f _ _
theorem bin_in : ∀ f (p : Array Nat) k, Ent n p → PathIn n lt (kas_bin f p k)
  | 0, p, k, e => trivial
  | f + 1, p, k, e => by
    unfold kas_bin
    exact PathIn.bind (place_in e k _ _ _) (bin_in f _ _ (e.perm (bubble_perm _ _ _)))
theorem sort_in (hn : 0 < n) : PathIn n lt (kas_sort n) := by
  unfold kas_sort
  have e : Ent n (List.toArray (List.range n)) := ⟨fun x hx => by simpa using hx, hn⟩
  obtain ⟨c1, c2⟩ := count_in (lt := lt) e n
  refine PathIn.bind c1 ?_
  split
  · exact bin_in _ _ _ (e.perm c2)
  · exact trivial
end
theorem wp_path {n : Nat} {lt : Nat → Nat → Bool} {α : Type} {cmp : Nat → Nat → (Bool → Shared → Prop) → Shared → Prop} {G : α → Shared → Prop} {s : Shared} (hc : ∀ i j (C : Bool → Shared → Prop), i < n → j < n → C (lt i j) s → cmp i j C s) :
    ∀ {t : KasT α}, PathIn n lt t → G (goT lt t) s → t.kasWp cmp G s
  | .ret a, _, h => h
  | .ask i j k, ⟨h1, h2, h3⟩, h => hc i j _ h1 h2 (wp_path hc h3 h)
end Mine
end
section
open PySem PySem.Spec PySem.Calls PyProof.Rows PySem.P PySem.W
namespace Mine
/-- order of keys -/
noncomputable def lexB : List Int → List Int → Bool
  | a :: as, b :: bs => if a = b then lexB as bs else decide (a < b)
  | _, _ => false
theorem lexB_trans : ∀ {a b c : List Int}, lexB a b = true → lexB b c = true → lexB a c = true
  | [], _, _, h, _ => by simp [lexB] at h
  | _ :: _, [], _, h, _ => by simp [lexB] at h
  | _ :: _, _ :: _, [], _, h => by simp [lexB] at h
  | a :: as, b :: bs, c :: cs, h1, h2 => by
    unfold lexB at h1 h2 ⊢
    by_cases e1 : a = b <;> by_cases e2 : b = c
    · subst e1 e2
      simp only [if_true] at h1 h2 ⊢
      exact lexB_trans h1 h2
    · subst e1
      simp only [e2, if_true, if_false] at h1 h2 ⊢
      exact h2
    · subst e2
      simp only [e1, if_true, if_false] at h1 h2 ⊢
      exact h1
    · simp only [e1, e2, if_false, decide_eq_true_eq] at h1 h2
      have : ¬ a = c := by omega
      simp only [this, if_false, decide_eq_true_eq]
      omega
theorem lexB_tot : ∀ {a b : List Int}, a.length = b.length → a ≠ b → lexB a b = true ∨ lexB b a = true
  | [], [], _, h => absurd rfl h
  | [], _ :: _, h, _ => by simp at h
  | _ :: _, [], h, _ => by simp at h
  | a :: as, b :: bs, hl, h => by
    unfold lexB
    by_cases e : a = b
    · subst e
      simp only [if_true]
      exact lexB_tot (by simpa using hl) fun e => h (by rw [e])
    · have e' : ¬ b = a := fun z => e z.symm
      simp only [e, e', if_false, decide_eq_true_eq]
      omega
theorem lexB_asym : ∀ {a b : List Int}, lexB a b = true → lexB b a = false
  | [], _, h => by simp [lexB] at h
  | _ :: _, [], h => by simp [lexB] at h
  | a :: as, b :: bs, h => by
    unfold lexB at h ⊢
    by_cases e : a = b
    · subst e
      simp only [if_true] at h ⊢
      exact lexB_asym h
    · have e' : ¬ b = a := fun z => e z.symm
      simp only [e, e', if_false, decide_eq_true_eq, decide_eq_false_iff_not] at h ⊢
      omega
noncomputable abbrev KT := List Int × List V
noncomputable def tupK (x : KT) : V := .tup (x.1.map .int ++ x.2)
theorem RelL.app_inv {h : Heap} : ∀ {vs ws : List V} {xs : List Value}, RelL h (vs ++ ws) xs → ∃ ys zs, xs = ys ++ zs ∧ RelL h vs ys ∧ RelL h ws zs
  | [], ws, xs, r => ⟨[], xs, rfl, by simp [RelL], r⟩
  | v :: vs, ws, xs, r => by
    obtain ⟨x, ys, rfl, rx, r'⟩ := RelL.cons_inv (vs := vs ++ ws) r
    obtain ⟨y1, z1, rfl, r1, r2⟩ := RelL.app_inv r'
    exact ⟨x :: y1, z1, rfl, ⟨_, _, rfl, rx, r1⟩, r2⟩
theorem lex_wp {prog : Program} {w : World} {A : Around} {b fin : Bool} {Q : Bool → Shared → Prop} {s : Shared} {h : Heap} : ∀ {ka kb : List Int} {ta tb : List Value} {xs ys : List Value} (i : Nat), ka.length = kb.length → ka ≠ kb →
    RelL h (ka.map .int) xs → RelL h (kb.map .int) ys → Q (lexB ka kb) s → KatLex prog w A b fin Q ((xs ++ ta).zip (ys ++ tb)) i s
  | [], [], _, _, _, _, _, _, hne, _, _, _ => absurd rfl hne
  | [], _ :: _, _, _, _, _, _, hl, _, _, _, _ => by simp at hl
  | _ :: _, [], _, _, _, _, _, hl, _, _, _, _ => by simp at hl
  | a :: ka, c :: kb, ta, tb, xs, ys, i, hl, hne, ra, rb, hq => by
    obtain ⟨x, xs, rfl, ⟨t, rfl⟩, ra'⟩ := RelL.cons_inv (v := .int a) (vs := ka.map .int) ra
    obtain ⟨y, ys, rfl, ⟨u, rfl⟩, rb'⟩ := RelL.cons_inv (v := .int c) (vs := kb.map .int) rb
    refine kat_cons (wpAny_eqBool_int ?_)
    by_cases e : a = c
    · subst e
      rw [beq_self_eq_true]
      refine kat_yes (lex_wp (i + 1) (by simpa using hl) (fun z => hne (by rw [z])) ra' rb' ?_)
      simpa [lexB] using hq
    · have eb : (a == c) = false := by simpa using e
      rw [eb]
      refine kat_no ?_
      have hq' : Q (decide (a < c)) s := by simpa [lexB, e] using hq
      cases (b && i == 0)
      · exact kat_one _ _ (PySem.P.lt_int hq')
      · exact oneLt_int hq'
theorem lexB_irr : ∀ a : List Int, lexB a a = false
  | [] => rfl
  | a :: as => by unfold lexB; rw [if_pos rfl]; exact lexB_irr as
noncomputable def Simple (v : V) : Prop := (∃ n, v = .int n) ∨ ∃ x, v = .str x
theorem lex_same {prog : Program} {w : World} {A : Around} {b fin : Bool} {Q : Bool → Shared → Prop} {s : Shared} {h : Heap} : ∀ {vs : List V} {xs : List Value} (i : Nat), (∀ v ∈ vs, Simple v) → RelL h vs xs → Q fin s → KatLex prog w A b fin Q (xs.zip xs) i s
  | [], xs, i, _, r, hq => by
    rw [show xs = [] from r]; exact hq
  | v :: vs, xs, i, hv, r, hq => by
    obtain ⟨x, ys, rfl, rx, r'⟩ := RelL.cons_inv r
    have ih := lex_same (prog := prog) (w := w) (A := A) (b := b) (fin := fin) (Q := Q) (s := s) (i + 1) (fun u hu => hv u (.tail _ hu)) r' hq
    rcases hv v (.head _) with ⟨n, rfl⟩ | ⟨z, rfl⟩
    · obtain ⟨t, rfl⟩ := rx
      refine kat_cons (wpAny_eqBool_int ?_)
      rw [beq_self_eq_true]
      exact kat_yes ih
    · obtain ⟨t, rfl⟩ := rx
      refine kat_cons (eqBool_str ?_)
      rw [beq_self_eq_true]
      exact kat_yes ih
theorem tups_of {h h' : Heap} (tk : TupKeep h h') : ∀ {xs : List KT} {vals : List Value}, (∀ x ∈ xs, 1 ≤ x.1.length) → RelL h (xs.map tupK) vals → ∃ fs, KatTups h' vals fs ∧ fs.length = xs.length ∧ ∀ v ∈ fs, ∃ n t, v = Value.int n t
  | [], vals, _, r => ⟨[], by rw [show vals = [] from r]; trivial, rfl, fun v hv => nomatch hv⟩
  | x :: xs, vals, hx, r => by
    obtain ⟨v, vals', rfl, rv, r'⟩ := RelL.cons_inv (v := tupK x) (vs := xs.map tupK) r
    obtain ⟨fs, f1, f2, f3⟩ := tups_of tk (fun y hy => hx y (.tail _ hy)) r'
    obtain ⟨a, items, n, rfl, ht, ri⟩ := rv
    obtain ⟨k0, kr, hk⟩ : ∃ k0 kr, x.1 = k0 :: kr := by
      have := hx x (.head _)
      match hh : x.1 with
      | [] => rw [hh] at this; simp at this
      | k0 :: kr => exact ⟨k0, kr, rfl⟩
    rw [hk] at ri
    obtain ⟨y, ys, e, ⟨t, rfl⟩, _⟩ := RelL.cons_inv (v := .int k0) (vs := kr.map .int ++ x.2) ri
    refine ⟨.int k0 t :: fs, KatTups.cons (tk _ _ _ ht) rfl rfl ?_ f1, by simp [f2], fun v hv => ?_⟩
    · rw [← Array.getElem?_toList, e]; rfl
    · rcases List.mem_cons.mp hv with rfl | hv
      · exact ⟨_, _, rfl⟩
      · exact f3 v hv
noncomputable def ltAt (xs : List KT) (i j : Nat) : Bool := lexB (xs.getD i ([], [])).1 (xs.getD j ([], [])).1
theorem ltAt_ok {xs : List KT} {m : Nat} (hm : ∀ x ∈ xs, x.1.length = m) (hd : (xs.map (·.1)).Nodup) : LtN xs.length (ltAt xs) := by
  have g : ∀ i, (hi : i < xs.length) → xs.getD i ([], []) = xs[i] := fun i hi => by simp [hi]
  refine ⟨fun i j k hi hj hk h1 h2 => lexB_trans h1 h2, fun i j hi hj hne => ?_, fun i j hi hj h => lexB_asym h⟩
  unfold ltAt
  rw [g i hi, g j hj]
  refine lexB_tot (by rw [hm _ (List.getElem_mem _), hm _ (List.getElem_mem _)]) fun e => ?_
  have pw := List.pairwise_iff_getElem.mp hd
  rcases Nat.lt_trichotomy i j with h | h | h
  · exact pw i j (by simpa using hi) (by simpa using hj) h (by simpa using e)
  · exact hne h
  · exact pw j i (by simpa using hj) (by simpa using hi) h (by simpa using e.symm)
section
variable {T : TI} {A : Around} {C : Cs}
theorem Call_sorted {i m : Nat} {a : Addr} {xs : List KT} {K} (hi : C[i]? = some (a, .list (xs.map tupK))) (h2 : 2 ≤ xs.length) (h64 : xs.length < 64) (hm1 : 1 ≤ m) (hm : ∀ x ∈ xs, x.1.length = m) (hd : (xs.map (·.1)).Nodup) (hsm : ∀ x ∈ xs, ∀ v ∈ x.2, Simple v)
    (h : ∀ (b : Addr) (ys : List KT), ys.Perm xs → ys.Pairwise (fun x y => lexB x.1 y.1 = true) → K (.ref b) ((b, .list (ys.map tupK)) :: C)) : Call T A C (.builtin "sorted") [.ref a] K := by
  refine ⟨fun s args k r => ?_⟩
  obtain ⟨x, zs, rfl, rx, r'⟩ := r.cons_inv
  cases r'.nil_inv
  cases rx
  obtain ⟨items, nn, hl, rl⟩ := cell_at k hi
  have hlen := rl.length
  rw [List.length_map] at hlen
  obtain ⟨vals, rfl⟩ : ∃ vals : List Value, items = vals.toArray := ⟨items.toList, by simp⟩
  simp only [List.toList_toArray] at rl hlen
  have hl' : s.heap.IsList a vals.toArray := hl.isList
  refine Calls.call_function_entry kind_sorted plain_sorted entry_sorted (args_sorted1 _) ?_
  unfold Builtin.«sorted»
  refine wpAny_bind (m := checkCount "sorted" 1 1 _) (wpAny_pure ?_)
  refine wpAny_bind (collect_list hl' ?_ (by rw [sizeLine_eq]; omega))
  refine wpAny_bind (wpAny_newList ?_ (by rw [sizeLine_eq]; omega))
  have hsz : ((s.heap.push (seqObj "list" #[] 0)).update s.heap.objs.size (Obj.mapSeq (· ++ vals.toArray))).objs.size = s.heap.objs.size + 1 := by
    rw [Heap.size_update, size_push']
  have hoL : (((s.heap.push (seqObj "list" #[] 0)).update s.heap.objs.size (Obj.mapSeq (· ++ vals.toArray))).push (seqObj "list" vals.toArray 0)).get? (s.heap.objs.size + 1) = some (seqObj "list" vals.toArray 0) := by
    rw [← hsz]; exact Heap.get?_push_size _ rfl
  have keep : ∀ b o, s.heap.get? b = some o → (((s.heap.push (seqObj "list" #[] 0)).update s.heap.objs.size (Obj.mapSeq (· ++ vals.toArray))).push (seqObj "list" vals.toArray 0)).get? b = some o := fun b o q => by
    have hlt : b < s.heap.objs.size := Heap.lt_size q
    rw [Heap.get?_push_ne _ _ _ (by rw [hsz]; exact Nat.ne_of_lt (Nat.lt_succ_of_lt hlt)), Heap.get?_update_ne _ _ _ _ (Nat.ne_of_lt hlt), Heap.get?_push_ne _ _ _ (Nat.ne_of_lt hlt)]
    exact q
  show wpAny _ _ _ _ _ { s with heap := ((s.heap.push (seqObj "list" #[] 0)).update s.heap.objs.size (Obj.mapSeq (· ++ vals.toArray))).push (seqObj "list" vals.toArray 0) }
  rw [hsz]
  generalize ((s.heap.push (seqObj "list" #[] 0)).update s.heap.objs.size (Obj.mapSeq (· ++ vals.toArray))).push (seqObj "list" vals.toArray 0) = h1 at hoL keep ⊢
  have hDn : s.heap.get? (s.heap.objs.size + 1) = none := Heap.get?_none_of_le (Nat.le_succ _)
  generalize s.heap.objs.size + 1 = D at hoL hDn ⊢
  refine wpAny_bind (wpAny_holding (wpAny_call_entry slot_list_sort ⟨_, hoL, rfl⟩ entry_list_sort ?body (args_list_sort _)))
  case body =>
    have s1 := Heap.SameBut.update h1 D (Obj.mapSeq fun _ => (#[] : Array Value))
    obtain ⟨e1, ho1⟩ : ∃ e1, (h1.update D (Obj.mapSeq fun _ => (#[] : Array Value))).get? D = some (seqObj "list" #[] e1) := ⟨_, get?_update_seq hoL fun _ => #[]⟩
    rw [list_sort_plain]
    refine wpAny_bind (listItems_at hoL rfl ?_)
    refine wpAny_bind (listUpdate_at hoL rfl ?_ (by rw [List.size_toArray, sizeLine_eq]; omega) (Nat.zero_le _))
    refine wpAny_bind (seqEpoch_at ho1 rfl ?_)
    refine wpAny_bind (wpAny_newTuple ?_ (by show vals.length ≤ _; rw [sizeLine_eq]; omega))
    refine wpAny_bind (wpAny_newList ?_ (Nat.zero_le _))
    refine wpAny_holding ?_
    show wpAny (Mo T) _ _ _ _ { s with heap := ((h1.update D (Obj.mapSeq fun _ => (#[] : Array Value))).push (seqObj "tuple" vals.toArray 0)).push (seqObj "list" #[] 0) }
    have keep2 : ∀ b o, s.heap.get? b = some o → (((h1.update D (Obj.mapSeq fun _ => (#[] : Array Value))).push (seqObj "tuple" vals.toArray 0)).push (seqObj "list" #[] 0)).get? b = some o := fun b o q =>
      Heap.get?_push_of_some _ (Heap.get?_push_of_some _ ((s1.2 b (fun z => by rw [z, hDn] at q; cases q)).trans (keep b o q)))
    have hD2 : (((h1.update D (Obj.mapSeq fun _ => (#[] : Array Value))).push (seqObj "tuple" vals.toArray 0)).push (seqObj "list" #[] 0)).get? D = some (seqObj "list" #[] e1) := Heap.get?_push_of_some _ (Heap.get?_push_of_some _ ho1)
    generalize ((h1.update D (Obj.mapSeq fun _ => (#[] : Array Value))).push (seqObj "tuple" vals.toArray 0)).push (seqObj "list" #[] 0) = h2' at keep2 hD2 ⊢
    have gr2 : Grow s { s with heap := h2' } := ⟨keep2, rfl, rfl⟩
    dsimp only
    have hn2 : ¬ vals.toArray.size < 2 := by rw [List.size_toArray]; omega
    rw [if_neg hn2, if_neg hn2]
    obtain ⟨fs, f1, f2, f3⟩ := tups_of gr2.tup (fun x hx => by rw [hm x hx]; exact hm1) rl
    refine wpAny_bind (kat_kind (T := .type "int") f1 (by omega) (fun v hv => by
      obtain ⟨z, t, rfl⟩ := f3 v hv
      exact .now) (by simp) ?_)
    have hask : (kas_sort vals.length).kasWp (kas_ask T.prog T.w A.in1.in1 (tuples' (Value.type "int" != Value.type "tuple")) vals) (fun p s'' => p = goT (ltAt xs) (kas_sort vals.length) ∧ s'' = { s with heap := h2' }) { s with heap := h2' } := by
      refine wp_path (n := vals.length) (lt := ltAt xs) (fun i j Cc hi' hj' hC => ?_) (sort_in (by omega)) ⟨rfl, rfl⟩
      have at' : ∀ i, i < vals.length → ∃ x ad its n, xs.getD i ([], []) = x ∧ x ∈ xs ∧ vals.getD i Value.none = .ref ad ∧ IsT h2' ad its n ∧ RelL h2' (x.1.map .int ++ x.2) its.toList := fun i hi => by
        obtain ⟨v, hv, rv⟩ := rl.get (n := i) (v := tupK xs[i]) (by rw [List.getElem?_map, List.getElem?_eq_getElem (by omega)]; rfl)
        obtain ⟨ad, its, n, rfl, ht, ri⟩ := rv
        exact ⟨xs[i], ad, its, n, by simp [show i < xs.length by omega], List.getElem_mem _, by simp [List.getD, hv], gr2.tup _ _ _ ht, ri.keep gr2.tup⟩
      obtain ⟨xi, ai, ii, ni, ei, mi, vi, ti, ri⟩ := at' i hi'
      obtain ⟨xj, aj, ij, nj, ej, mj, vj, tj, rj⟩ := at' j hj'
      unfold kas_ask
      rw [vi, vj]
      by_cases hij : i = j
      · subst hij
        rw [vi] at vj; cases vj
        have e2 : some _ = some _ := ti.symm.trans tj
        refine kat_lt ti rfl ti rfl ?_
        have hf : decide (ii.size < ii.size) = false := by simp
        refine lex_same 0 (vs := xi.1.map .int ++ xi.2) (fun v hv => ?_) ri ?_
        · rcases List.mem_append.mp hv with hv | hv
          · obtain ⟨n, _, rfl⟩ := List.mem_map.mp hv
            exact .inl ⟨n, rfl⟩
          · exact hsm _ mi v hv
        · rw [hf]
          unfold ltAt at hC
          rw [lexB_irr] at hC; exact hC
      · refine kat_lt ti rfl tj rfl ?_
        obtain ⟨y1, z1, e1', r1, _⟩ := RelL.app_inv ri
        obtain ⟨y2, z2, e2', r2, _⟩ := RelL.app_inv rj
        rw [e1', e2']
        refine lex_wp 0 (by rw [hm _ mi, hm _ mj]) (fun e => ?_) r1 r2 ?_
        · have tt := (ltAt_ok hm hd).tot i j (by omega) (by omega) hij
          unfold ltAt at tt
          rw [ei, ej, e] at tt
          rcases tt with tt | tt <;> (have := lexB_asym tt; rw [tt] at this; cases this)
        · unfold ltAt at hC
          rw [ei, ej] at hC; exact hC
    refine wpAny_bind (wpAny_mono (kat_run (Q := fun st' s' => ∃ p : Array Nat, p.size = vals.length ∧ arrOf st' = p.map (kas_item (vals.toArray.zip vals.toArray)) ∧ failedOf st' = none ∧ p = goT (ltAt xs) (kas_sort vals.length) ∧ s' = { s with heap := h2' })
      rfl (by omega) (by omega) (fun p' st' s' a1 a2 a3 a4 => ⟨p', a1, a2, a3, a4⟩) hask) ?_ fun _ _ e => e)
    rintro ⟨⟨⟩, st'⟩ s' ⟨p, hp, har, hf, hpe, rfl⟩
    dsimp only
    have hout := kat_snds rfl har
    have hszp : (List.toArray (p.toList.map fun i => vals.getD i Value.none)).size = vals.length := by rw [List.size_toArray, List.length_map, Array.length_toList, hp]
    rw [hout]
    have s2 := Heap.SameBut.update h2' D (Obj.mapSeq fun _ => List.toArray (p.toList.map fun i => vals.getD i Value.none))
    obtain ⟨c2, hc2⟩ : ∃ c2, (h2'.update D (Obj.mapSeq fun _ => List.toArray (p.toList.map fun i => vals.getD i Value.none))).get? D = some (seqObj "list" (List.toArray (p.toList.map fun i => vals.getD i Value.none)) c2) := ⟨_, get?_update_seq hD2 fun _ => List.toArray (p.toList.map fun i => vals.getD i Value.none)⟩
    refine wpAny_bind (seqEpoch_at hD2 rfl ?_)
    refine wpAny_bind (listUpdate_at hD2 rfl ?_ (Nat.zero_le _) (Nat.le_trans (Nat.le_of_eq hszp) (by rw [sizeLine_eq]; omega)))
    rw [hf]
    simp only [bne_self_eq_false, Bool.false_eq_true, if_false]
    refine wpAny_pure ⟨_, rfl, wpAny_pure ⟨_, rfl, ?_⟩⟩
    have L := ltAt_ok hm hd
    have tsr := tree_sorts L (by omega)
    rw [hlen] at hpe
    rw [← hpe] at tsr
    obtain ⟨gp, sp⟩ := tsr
    have gx : ∀ i, (hi : i < xs.length) → xs.getD i ([], []) = xs[i] := fun i hi => by simp [hi]
    have hmem : ∀ i ∈ p.toList, i < xs.length := fun i hi => by simpa using gp.perm.mem_iff.mp hi
    have hfin : Ok T ((D, Cell.list ((p.toList.map fun i => xs.getD i ([], [])).map tupK)) :: C) { s with heap := h2'.update D (Obj.mapSeq fun _ => List.toArray (p.toList.map fun i => vals.getD i Value.none)) } ∧ Go C s.heap ((D, Cell.list ((p.toList.map fun i => xs.getD i ([], [])).map tupK)) :: C) (h2'.update D (Obj.mapSeq fun _ => List.toArray (p.toList.map fun i => vals.getD i Value.none))) := by
      have gr3 : Grow s { s with heap := h2'.update D (Obj.mapSeq fun _ => List.toArray (p.toList.map fun i => vals.getD i Value.none)) } := ⟨fun b o q => (s2.2 b (fun z => by rw [z, hDn] at q; cases q)).trans (keep2 b o q), rfl, rfl⟩
      refine k.add gr3 ⟨_, _, hc2, ?_⟩ (fun b hb => by cases List.mem_singleton.mp hb; exact hDn) (by simp [foot])
      refine RelL.of_get (by simp) fun i v x hv hx => ?_
      simp only [List.map_map, List.getElem?_map, Option.map_eq_some_iff, List.toList_toArray] at hv hx
      obtain ⟨q, hq, rfl⟩ := hv
      obtain ⟨q', hq', rfl⟩ := hx
      rw [hq] at hq'; cases hq'
      have hlt := hmem q (List.mem_of_getElem? hq)
      obtain ⟨v, hv, rv⟩ := rl.get (n := q) (v := tupK xs[q]) (by rw [List.getElem?_map, List.getElem?_eq_getElem hlt]; rfl)
      have ev : vals.getD q Value.none = v := by simp [List.getD, hv]
      show Rel _ (tupK (xs.getD q ([], []))) (vals.getD q Value.none)
      rw [gx q hlt, ev]
      exact rv.keep gr3.tup
    refine ⟨.ref D, _, h D (p.toList.map fun i => xs.getD i ([], [])) ?_ ?_, rfl, hfin.1, hfin.2⟩
    · have e0 : (List.range xs.length).map (fun i => xs.getD i ([], [])) = xs := by
        apply List.ext_getElem
        · simp
        · intro i h1 h2
          simp at h1
          simp [h1]
      exact (gp.perm.map _).trans (by rw [e0])
    · rw [List.pairwise_map, List.pairwise_iff_getElem]
      intro i j hi hj hij
      have := sp i j hij (by simpa [gp.size] using hj)
      have ge : ∀ i, (hi : i < p.toList.length) → p.getD i 0 = p.toList[i] := fun i hi => by
        have : i < p.size := by simpa using hi
        simp [Array.getD, this]
      rw [ge i hi, ge j hj] at this
      exact this
end
end Mine
end
section
open PySem PySem.Spec PySem.Calls PyProof.Rows PySem.P PySem.W PySem.SeqAt
open AutoSeq1 (wpAny_loadPart')
namespace Mine
/-- values that are compared by what they hold -/
inductive Lv : Nat → V → Prop
  | int (n : Nat) (i : Int) : Lv n (.int i)
  | str (n : Nat) (x : Str) : Lv n (.str x)
  | tup (n : Nat) (vs : List V) (h : ∀ v ∈ vs, Lv n v) : Lv (n + 1) (.tup vs)
theorem all_true (n : Nat) : (List.range n).all (fun _ => true) = true := by simp
theorem eq_same : ∀ (n : Nat) {A : Around} {s : Shared} {v : V} {x y : Value}, Rm A n → Lv n v → Rel s.heap v x → Rel s.heap v y → EqAt A s x y true := by
  intro n
  induction n with
  | zero =>
    intro A s v x y rm l rx ry
    cases l with
    | int _ i => obtain ⟨t, rfl⟩ := rx; obtain ⟨u, rfl⟩ := ry; simpa using EqAt.int_int (A := A) (s := s) i t i u
    | str _ z => obtain ⟨t, rfl⟩ := rx; obtain ⟨u, rfl⟩ := ry; simpa using EqAt.str_str (A := A) (s := s) z t z u
  | succ n ih =>
    intro A s v x y rm l rx ry
    cases l with
    | int _ i => obtain ⟨t, rfl⟩ := rx; obtain ⟨u, rfl⟩ := ry; simpa using EqAt.int_int (A := A) (s := s) i t i u
    | str _ z => obtain ⟨t, rfl⟩ := rx; obtain ⟨u, rfl⟩ := ry; simpa using EqAt.str_str (A := A) (s := s) z t z u
    | tup _ vs h =>
      obtain ⟨a, ia, na, rfl, ta, ra⟩ := rx
      obtain ⟨b, ib, nb, rfl, tb, rb⟩ := ry
      by_cases e : a = b
      · subst e; exact EqAt.same _
      · refine EqAt.of_refs e ?_
        have ea := ra.length
        have eb := rb.length
        rw [Array.length_toList] at ea eb
        have := RcAt.tuples (e := fun _ => true) (IsT.isTuple ta) (IsT.isTuple tb) rm.u (fun j h1 h2 => by
          have hj : j < vs.length := by omega
          obtain ⟨p, hp, rp⟩ := ra.get (n := j) (v := vs[j]) (List.getElem?_eq_getElem hj)
          obtain ⟨q, hq, rq⟩ := rb.get (n := j) (v := vs[j]) (List.getElem?_eq_getElem hj)
          have e1 : ia[j] = p := by
            have : ia[j]? = some p := by simpa using hp
            rw [Array.getElem?_eq_getElem h1] at this; exact Option.some.inj this
          have e2 : ib[j] = q := by
            have : ib[j]? = some q := by simpa using hq
            rw [Array.getElem?_eq_getElem h2] at this; exact Option.some.inj this
          rw [e1, e2]
          exact ih rm.in1 (h _ (List.getElem_mem hj)) rp rq)
        rw [show ia.size = ib.size by omega, Nat.min_self, all_true, beq_self_eq_true] at this
        exact this
theorem list_same {n : Nat} {A : Around} {s : Shared} {vs : List V} {ia ib : Array Value} (rm : Rm A n) (h : ∀ v ∈ vs, Lv n v) (ra : RelL s.heap vs ia.toList) (rb : RelL s.heap vs ib.toList) (j : Nat) (h1 : j < ia.size) (h2 : j < ib.size) : EqAt A s ia[j] ib[j] true := by
  have ea := ra.length
  rw [Array.length_toList] at ea
  have hj : j < vs.length := by omega
  obtain ⟨p, hp, rp⟩ := ra.get (n := j) (v := vs[j]) (List.getElem?_eq_getElem hj)
  obtain ⟨q, hq, rq⟩ := rb.get (n := j) (v := vs[j]) (List.getElem?_eq_getElem hj)
  have e1 : ia[j] = p := by
    have : ia[j]? = some p := by simpa using hp
    rw [Array.getElem?_eq_getElem h1] at this; exact Option.some.inj this
  have e2 : ib[j] = q := by
    have : ib[j]? = some q := by simpa using hq
    rw [Array.getElem?_eq_getElem h2] at this; exact Option.some.inj this
  rw [e1, e2]
  exact eq_same n rm (h _ (List.getElem_mem hj)) rp rq
section
variable {T : TI} {A : Around} {C : Cs}
theorem O_eql {n i j : Nat} {a b : Addr} {vs : List V} {K} (rm : Rm A (n + 1)) (hi : C[i]? = some (a, .list vs)) (hj : C[j]? = some (b, .list vs)) (hl : ∀ v ∈ vs, Lv n v) (h : K (.bool true) C) : OpC T A C .Eq (.ref a) (.ref b) K := by
  refine ⟨?_⟩
  rintro s _ _ k rfl rfl
  obtain ⟨ia, na, la, ra⟩ := cell_at k hi
  obtain ⟨ib, nb, lb, rb⟩ := cell_at k hj
  have ea := ra.length
  have eb := rb.length
  rw [Array.length_toList] at ea eb
  refine eq_listAt (e := fun _ => true) la.isList lb.isList (by omega) rm.u (fun j h1 h2 => list_same rm.in1 hl ra rb j h1 h2) ?_
  rw [all_true]
  exact ret_growC h k (Grow.refl s) rfl
theorem O_nel {n i j : Nat} {a b : Addr} {vs : List V} {K} (rm : Rm A (n + 1)) (hi : C[i]? = some (a, .list vs)) (hj : C[j]? = some (b, .list vs)) (hl : ∀ v ∈ vs, Lv n v) (h : K (.bool false) C) : OpC T A C .NotEq (.ref a) (.ref b) K := by
  refine ⟨?_⟩
  rintro s _ _ k rfl rfl
  obtain ⟨ia, na, la, ra⟩ := cell_at k hi
  obtain ⟨ib, nb, lb, rb⟩ := cell_at k hj
  have ea := ra.length
  have eb := rb.length
  rw [Array.length_toList] at ea eb
  have := RcNeAt.lists (e := fun _ => true) la.isList lb.isList (by omega) rm.u (fun j h1 h2 => list_same rm.in1 hl ra rb j h1 h2)
  rw [all_true] at this
  exact this T.prog T.w _ _ (ret_growC h k (Grow.refl s) rfl)
end
theorem tuple_ltAt (l b : Addr) (x1 x2 y1 y2 : Int) (t1 t2 u1 u2 : Tok) (n n2 : Nat) :
    Meets (Builtin.«tuple.__lt__» ⟨[.ref l, .ref b], []⟩)
      (fun A R s => s.heap.get? l = some { cls := .type "tuple", data := .seq #[.int x1 t1, .int x2 t2] n } ∧ s.heap.get? b = some { cls := .type "tuple", data := .seq #[.int y1 u1, .int y2 u2] n2 } ∧
        R (.ok (.ret (.bool (lexB [x1, x2] [y1, y2])))) s) :=
  .of_wp fun prog w A R s h => by
    obtain ⟨hp, g, d, tk, os⟩ := s; obtain ⟨hl, hb, h⟩ := h
    have f2 := AutoSeq1.sub_tuple_tuple
    have lt : ∀ (A : Around) (a b : Int) (t u : Tok) (Q : Value → Shared → Prop) (E : Value → Shared → Prop) (s : Shared), Q (.bool (decide (a < b))) s → wpAny (model prog w) A (richCompare .Lt (.int a t) (.int b u)) Q E s := fun A a b t u Q E s h => PySem.P.lt_int h
    wp_walk using wpAny_loadPart' hl, wpAny_loadPart' hb, wpAny_eqBool_int
    by_cases e1 : x1 = y1
    · have b1 : (x1 == y1) = true := by simpa using e1
      rw [b1]
      wp_walk using wpAny_eqBool_int
      by_cases e2 : x2 = y2
      · have b2 : (x2 == y2) = true := by simpa using e2
        rw [b2]
        wp_walk
        exact ⟨_, rfl, by simpa [lexB, e1, e2, Builtin.Tuple.tupleCompareSizes] using h⟩
      · have b2 : (x2 == y2) = false := by simpa using e2
        rw [b2]
        wp_walk using lt _ _ _ _ _ _ _ _
        exact ⟨_, rfl, by simpa [lexB, e1, e2] using h⟩
    · have b1 : (x1 == y1) = false := by simpa using e1
      rw [b1]
      wp_walk using lt _ _ _ _ _ _ _ _
      exact ⟨_, rfl, by simpa [lexB, e1] using h⟩
theorem O_ltT {n : Nat} {T : TI} {A : Around} {C : Cs} {x1 x2 y1 y2 : Int} {K} (rm : Rm A n) (h : K (.bool (lexB [x1, x2] [y1, y2])) C) : OpC T A C .Lt (.tup [.int x1, .int x2]) (.tup [.int y1, .int y2]) K := by
  refine ⟨?_⟩
  rintro s _ _ k ⟨a, ia, na, rfl, ta, ra⟩ ⟨b, ib, nb, rfl, tb, rb⟩
  obtain ⟨p1, q1, e1, ⟨t1, rfl⟩, r1⟩ := ra.cons_inv
  obtain ⟨p2, q2, rfl, ⟨t2, rfl⟩, r2⟩ := r1.cons_inv
  rw [show q2 = [] from r2] at e1
  obtain ⟨p3, q3, e3, ⟨t3, rfl⟩, r3⟩ := rb.cons_inv
  obtain ⟨p4, q4, rfl, ⟨t4, rfl⟩, r4⟩ := r3.cons_inv
  rw [show q4 = [] from r4] at e3
  have ei : ia = #[.int x1 t1, .int x2 t2] := Array.toList_inj.mp e1
  have ej : ib = #[.int y1 t3, .int y2 t4] := Array.toList_inj.mp e3
  subst ei ej
  exact richCompare_meets_room (op := .Lt) ⟨_, ta, rfl⟩ ⟨_, tb, rfl⟩ F.slot_tuple_lt F.entry_tuple_lt (F.args_tuple_lt_2 _ _) (tuple_ltAt a b x1 x2 y1 y2 t1 t2 t3 t4 na nb)
    ⟨ta, tb, ⟨(fun x => nomatch x), ret_growC h k (Grow.refl s) rfl⟩⟩ rm.u
end Mine
end
section
open PySem PySem.Spec PySem.Calls PyProof.Rows PySem.P PySem.W
namespace Mine
theorem bounds_up {n : Int} (h0 : 0 ≤ n) (k : Nat) : sliceBounds none (some n) none k = (0, min n k, 1) := by
  simp only [sliceBounds, Option.getD_none]
  have h2 : ¬ (n < 0) := by omega
  simp only [h2, if_false, show (1 : Int) > 0 by decide, if_true]
  rw [show max (0 : Int) (min n (k : Int)) = min n k by omega]
theorem drop_zip {α : Type} : ∀ (l : List α) (k : Nat) (m : Int), (l.zipIdx k).filterMap (fun (p : α × Nat) => if (decide ((0 : Int) ≤ p.2) && decide ((p.2 : Int) < m) && ((p.2 : Int) - 0) % 1 == 0) = true then none else some p.1) = l.drop (m - k).toNat
  | [], k, m => by simp
  | x :: l, k, m => by
    rw [List.zipIdx_cons, List.filterMap_cons]
    have ih := drop_zip l (k + 1) m
    have e : (((k : Int) - 0) % 1 == 0) = true := by simp
    by_cases hk : (k : Int) < m
    · have c : (decide ((0 : Int) ≤ k) && decide ((k : Int) < m) && ((k : Int) - 0) % 1 == 0) = true := by
        rw [Bool.and_eq_true, Bool.and_eq_true]
        exact ⟨⟨by simp, by simpa using hk⟩, e⟩
      simp only [c, if_true]
      rw [ih, show (m - k).toNat = (m - (k + 1 : Nat)).toNat + 1 by omega, List.drop_succ_cons]
    · have c : ¬ (decide ((0 : Int) ≤ k) && decide ((k : Int) < m) && ((k : Int) - 0) % 1 == 0) = true := by
        rw [Bool.and_eq_true, Bool.and_eq_true]
        rintro ⟨⟨_, h⟩, _⟩
        exact hk (by simpa using h)
      simp only [c, if_false]
      rw [ih, show (m - k).toNat = 0 by omega, show (m - (k + 1 : Nat)).toNat = 0 by omega]
      simp
theorem RelL.eq {h : Heap} {vs : List V} {xs ys : List Value} (r : RelL h vs xs) (e : xs = ys) : RelL h vs ys := e ▸ r
section
variable {T : TI} {A : Around} {env : Env} {ℓ : Lo} {H : Cs}
theorem Ex_del_upto {o upper : Expr} {p pos pos' : Pos} {K}
    (h : Ev T A env ℓ H o fun v H₁ => Ev T A env ℓ H₁ upper fun w H₂ => ∃ (a : Addr) (j : Nat) (vs : List V) (n : Int), v = .ref a ∧ w = .int n ∧ H₂[j]? = some (a, .list vs) ∧ 0 ≤ n ∧ vs.length ≤ 1000000 ∧ K .next ℓ (H₂.set j (a, .list (vs.drop n.toNat)))) :
    Ex T A env ℓ H (.Delete [.Subscript o (.Slice none (some upper) none p) pos] pos') K := by
  refine ⟨fun s k => ?_⟩
  refine wpAny_Delete (wpAny_deleteEach_cons ?_)
  rw [arm_delete_Subscript]
  refine wpAny_bind (wpAny_mono (h.run s k) ?_ fun _ _ e => e)
  refine fun x s₁ p₀ => p₀.inE fun v H₁ hK r₁ k₁ g₁ => ?_
  refine wpAny_bind (wpAny_holding (wpAny_Slice (wpAny_pure (wpAny_mono (hK.run s₁ k₁) ?_ fun _ _ e => e))))
  refine fun y s₂ p₀ => p₀.inE fun w H₂ hh₀ r₂ k₂ g₂ => ?_
  obtain ⟨a, j, vs, n, rfl, rfl, hj, h0, hn, hK₂⟩ := hh₀
  cases r₁
  obtain ⟨u, rfl⟩ := r₂
  refine wpAny_pure ?_
  have gr := Grow.push s₂ { cls := .type "slice", data := .fields #[.none, .int n u, .none] } s₂.toks
  obtain ⟨k₃, g₃⟩ := k₂.grow gr
  have hj' : (lc env ℓ :: H₂)[j + 1]? = some (a, Cell.list vs) := by simpa using hj
  obtain ⟨items, nn, hl, r⟩ := cell_at k₃ hj'
  have hlen := r.length
  rw [Array.length_toList] at hlen
  have hsl : (s₂.heap.push { cls := .type "slice", data := .fields #[.none, .int n u, .none] }).IsSliceOf s₂.heap.objs.size .none (.int n u) .none := Heap.IsSliceOf.new ..
  obtain ⟨os, hos, hcs, hds⟩ := hsl
  refine wpAny_bind (wpAny_standAt (wpAny_bind (wpAny_holding ?_)))
  have hTs : Shared.TypeIs { s₂ with heap := s₂.heap.push { cls := .type "slice", data := .fields #[.none, .int n u, .none] } } (.ref s₂.heap.objs.size) "slice" := ⟨os, hos, hcs⟩
  refine wpAny_delItem_slot (T := "list") ⟨_, hl, rfl⟩ (by decide) F.slot_list_delitem (wpAny_call_entry F.slot_list_delitem ⟨_, hl, rfl⟩ F.entry_list_delitem ?_ (F.args_list_delitem_2 _ _))
  show wpAny _ _ (Builtin.List.listSubscript? (.ref s₂.heap.objs.size) >>= _) _ _ _
  refine wpAny_bind ?_
  unfold Builtin.List.listSubscript?
  refine wpAny_bind (wpAny_specialOf hTs slice_no_index ?_)
  simp only [Option.isNone_none, if_true]
  refine wpAny_pure ?_
  show wpAny _ _ (typeOf (.ref s₂.heap.objs.size) >>= _) _ _ _
  refine wpAny_bind (wpAny_typeOf hTs ?_)
  rw [if_neg (by decide)]
  rw [listSliceParts_eq]
  refine wpAny_bind (wpAny_bind (wpAny_field hos hds (x := .none) rfl (wpAny_bind (wpAny_listPart .none ?_))))
  rw [if_neg (by exact Bool.false_ne_true)]
  refine wpAny_bind (wpAny_field hos hds (x := .none) rfl (wpAny_bind (wpAny_listPart .none ?_)))
  refine wpAny_bind (wpAny_field hos hds (x := .int n u) rfl (wpAny_bind (wpAny_listPart (.int n u) (wpAny_pure ?_))))
  refine wpAny_bind (m := Builtin.List.listItems (.ref a)) ?_
  unfold Builtin.List.listItems
  refine wpAny_bind (wpAny_seqItems hl rfl (wpAny_pure ?_))
  refine wpAny_bind (wpAny_of_eq (sliceIndices_raw none (some n) none items.size (by simp)) ?_)
  rw [bounds_up h0]
  refine wpAny_bind (wpAny_rule ?_)
  refine wpAny_bind (listUpdate_at hl rfl ?_ (by rw [sizeLine_eq]; omega) ?_)
  · refine wpAny_bind (wpAny_letGo (wpAny_pure ⟨_, rfl, ?_⟩))
    refine wpAny_release (wpAny_deleteEach_nil ?_)
    refine (fun z : _ ∧ _ => PostG.stI (v := .next) hK₂ rfl z.1 (((g₁.trans g₂).trans g₃).trans z.2)) (list_upd (vs' := vs.drop n.toNat) (t := s₂.toks) k₃ hj' hl fun tk => ?_)
    refine RelL.eq (r.keep tk |>.drop n.toNat) ?_
    refine Eq.trans ?_ (Eq.symm (show _ = _ from drop_zip items.toList 0 (min n items.size)))
    by_cases hle : n ≤ items.size
    · rw [show (min n (items.size : Int) - (0 : Nat)).toNat = n.toNat by omega]
    · rw [List.drop_eq_nil_of_le (by simp; omega), List.drop_eq_nil_of_le (by simp; omega)]
  · refine Nat.le_trans (Nat.le_of_eq (show _ = (items.toList.drop (min n (items.size : Int) - (0 : Nat)).toNat).length from congrArg List.length (drop_zip items.toList 0 (min n items.size)))) ?_
    rw [List.length_drop, Array.length_toList, sizeLine_eq]; omega
end
end Mine
end
section
open PySem PySem.Spec PySem.Calls PyProof.Rows PySem.P PySem.W
namespace Mine
/-- a new object ahead of the frame -/
noncomputable def frK (env : Env) (ℓ : Lo) (K : V → Cs → Prop) : V → Cs → Prop := fun v C' => ∃ x H', C' = x :: lc env ℓ :: H' ∧ K v (x :: H')
section
variable {T : TI} {A : Around} {env : Env} {ℓ : Lo} {H : Cs}
theorem post_swap {C : Cs} {h : Heap} {K} {x : Value} {s : Shared} (p : PostG T C h Rel (frK env ℓ K) x s) : PostG T C h Rel (inH env ℓ K) x s := by
  obtain ⟨v, _, ⟨y, H', rfl, hK⟩, r, k, g⟩ := p
  have q : (y :: lc env ℓ :: H').Perm (lc env ℓ :: y :: H') := .swap _ _ _
  exact ⟨v, _, ⟨_, rfl, hK⟩, r, k.perm q, g.permR q⟩
theorem Call.swap {C : Cs} {f : Value} {vs : List V} {K} (h : Call T A C f vs (frK env ℓ K)) : Call T A C f vs (inH env ℓ K) := ⟨fun s xs k r => wpAny_mono (h.run s xs k r) (fun _ _ p => post_swap p) fun _ _ e => e⟩
theorem OpU.swap {C : Cs} {value slice : Expr} {v w : V} {K} (h : OpU T A C value slice v w (frK env ℓ K)) : OpU T A C value slice v w (inH env ℓ K) := ⟨fun s x y k r1 r2 => wpAny_mono (h.run s x y k r1 r2) (fun _ _ p => post_swap p) fun _ _ e => e⟩
theorem OpB.swap {C : Cs} {op : Operator} {v w : V} {K} (h : OpB T A C op v w (frK env ℓ K)) : OpB T A C op v w (inH env ℓ K) := ⟨fun s x y k r1 r2 => wpAny_mono (h.run s x y k r1 r2) (fun _ _ p => post_swap p) fun _ _ e => e⟩
theorem Itr.swap {C : Cs} {v : V} {K : Addr → Cs → Prop} (h : Itr T A C v (fun a C' => ∃ x H', C' = x :: lc env ℓ :: H' ∧ K a (x :: H'))) : Itr T A C v (fun a C' => ∃ H₂, C' = lc env ℓ :: H₂ ∧ K a H₂) := ⟨fun s x k r => wpAny_mono (h.run s x k r) (by
  rintro y s' ⟨a, _, ⟨z, H', rfl, hK⟩, rfl, k', g'⟩
  have q : (z :: lc env ℓ :: H').Perm (lc env ℓ :: z :: H') := .swap _ _ _
  exact ⟨a, _, ⟨_, rfl, hK⟩, rfl, k'.perm q, g'.permR q⟩) fun _ _ e => e⟩
end
theorem fdiv2 (n : Nat) (k : Nat) : ((n : Int).fdiv (k : Int)) = ((n / k : Nat) : Int) := by
  rw [Int.fdiv_eq_ediv_of_nonneg _ (by omega)]; rfl
theorem fmod2 (n : Nat) (k : Nat) : ((n : Int).fmod (k : Int)) = ((n % k : Nat) : Int) := by
  rw [Int.fmod_eq_emod_of_nonneg _ (by omega)]; rfl
end Mine
end
section
open PySem PySem.Spec PySem.Calls PyProof.Rows PySem.P PySem.W
namespace Mine
section
variable {T : TI} {A : Around} {env : Env} {ℓ : Lo} {H : Cs}
theorem Ex_assignT {es : List Expr} {kd : Nat} {tpos pos : Pos} {e : Expr} {K} (h : Ev T A env ℓ H e fun v H₁ => Asn T A env ℓ H₁ (.Tuple es kd tpos) v fun ℓ' H' => K .next ℓ' H')
    (hs : swapsWithSole [.Tuple es kd tpos] e pos.line env = pure false := by rfl) (hw : swappedStores [.Tuple es kd tpos] e env = pure none := by rfl) : Ex T A env ℓ H (.Assign [.Tuple es kd tpos] e pos) K := by
  refine ⟨fun s k => ?_⟩
  refine Assign_Tuple (wpAny_mono (h.run s k) ?_ fun _ _ e => e) hs hw
  refine fun x s₁ p₀ => p₀.inE fun v H₁ hK r₁ k₁ g₁ => ?_
  refine wpAny_mono (hK.run s₁ x k₁ r₁) ?_ fun _ _ e => e
  rintro _ s₂ ⟨ℓ', H', hK', k₂, g₂⟩
  exact PostG.stI (v := .next) hK' rfl k₂ (g₁.trans g₂)
theorem Cm_ind {elt target iter : Expr} {scope : Scope} {pos : Pos} {it : Value} {D : Addr} {K : Cs → Prop} {ι : Type} (I : ι → Lo → Cs → Prop) (m : ι → Nat)
    (step : ∀ i ℓ H, I i ℓ H → (∀ j ℓ' H', m j < m i → I j ℓ' H' → Cm T A env ℓ' H' elt target iter scope pos it D K) → Cm T A env ℓ H elt target iter scope pos it D K) (i : ι) {ℓ : Lo} {H : Cs} (h : I i ℓ H) : Cm T A env ℓ H elt target iter scope pos it D K := by
  have key : ∀ n i ℓ H, m i = n → I i ℓ H → Cm T A env ℓ H elt target iter scope pos it D K := by
    intro n
    induction n using Nat.strongRecOn with
    | ind n ih =>
      intro i ℓ H hn hI
      exact step i ℓ H hI fun j ℓ' H' hj hI' => ih (m j) (hn ▸ hj) j ℓ' H' rfl hI'
  exact key _ i ℓ H rfl h
theorem Cm.perm {elt target iter : Expr} {scope : Scope} {pos : Pos} {it : Value} {D : Addr} {K : Cs → Prop} {H' : Cs} (p : H.Perm H') (h : Cm T A env ℓ H' elt target iter scope pos it D K) : Cm T A env ℓ H elt target iter scope pos it D K := by
  refine ⟨fun s k => ?_⟩
  have q : (lc env ℓ :: H).Perm (lc env ℓ :: H') := p.cons _
  exact codeAny_mono (h.run s (k.perm q)) fun r s' ⟨f, e, ℓ₂, H₂, hK, k₂, g₂⟩ => ⟨f, e, ℓ₂, H₂, hK, k₂, g₂.permL q.symm⟩
theorem Cm.forget {ℓ' : Lo} {elt target iter : Expr} {scope : Scope} {pos : Pos} {it : Value} {D : Addr} {K : Cs → Prop} (hs : Sub ℓ' ℓ) (h : Cm T A env ℓ' H elt target iter scope pos it D K) : Cm T A env ℓ H elt target iter scope pos it D K := by
  refine ⟨fun s k => ?_⟩
  obtain ⟨k', g'⟩ := k.forget hs
  exact codeAny_mono (h.run s k') fun r s' ⟨f, e, ℓ₂, H₂, hK, k₂, g₂⟩ => ⟨f, e, ℓ₂, H₂, hK, k₂, g'.trans g₂⟩
end
noncomputable def zV (l : List Int) : List V := l.map .int
theorem zV_any {h h' : Heap} : ∀ {l : List Int} {xs : List Value}, RelL h (zV l) xs → RelL h' (zV l) xs
  | [], xs, r => r
  | a :: l, xs, r => by
    obtain ⟨x, ys, rfl, rx, r'⟩ := RelL.cons_inv (v := .int a) (vs := zV l) r
    exact ⟨_, _, rfl, rx, zV_any r'⟩
/-- a list of whole numbers among the given things -/
noncomputable def TopInts (T : TI) (a : Addr) (l : List Int) : Prop := a ≠ T.tb ∧ ∃ items, T.h₁.IsList a items ∧ RelL T.h₁ (zV l) items.toList
theorem O_upto_top {T : TI} {A : Around} {C : Cs} {value slice : Expr} {a : Addr} {l : List Int} {n : Int} {K} (ht : TopInts T a l) (h0 : 0 ≤ n) (hn : l.length ≤ 10000000) (h : ∀ b, K (.ref b) ((b, .list (zV (l.take n.toNat))) :: C))
    (hs : ∀ o i, subscripted slice false o i = operate [i, o] (getItem o i) := by intro _ _; rfl) : OpU T A C value slice (.ref a) (.int n) K := by
  refine ⟨?_⟩
  rintro s _ _ k rfl ⟨u, rfl⟩
  obtain ⟨hne, items, ⟨o, ho, r1⟩, r⟩ := ht
  have hl : s.heap.IsList a items := ⟨o, k.top _ _ ho hne, r1⟩
  have hlen := r.length
  rw [Array.length_toList, zV, List.length_map] at hlen
  have gr := Grow.push s { cls := .type "slice", data := .fields #[.none, .int n u, .none] } s.toks
  have hl' := hl.push { cls := .type "slice", data := .fields #[.none, .int n u, .none] }
  refine tail_any (T := "list") (Heap.IsList.typeIs (s := { s with heap := s.heap.push _ }) hl') slot_list_getitem.lookup (wpAny_getItem_list_slice hl' (Heap.IsSliceOf.new ..) .none (.int n u) .none (by simp) ?_ (by rw [sizeLine_eq]; omega)) (hs _ _)
  obtain ⟨k₁, g₁⟩ := k.grow gr
  have gr₂ := Grow.push { s with heap := s.heap.push { cls := .type "slice", data := .fields #[.none, .int n u, .none] } } { cls := .type "list", data := .seq (slicePick items none (some n) none) } s.toks
  obtain ⟨k', g'⟩ := k₁.add gr₂ (a := _) (c := .list (zV (l.take n.toNat))) ⟨_, _, Heap.get?_push_size _ rfl, by
    rw [slicePick_up _ _ h0, zV, List.map_take]; exact zV_any (l := l.take n.toNat) (by rw [zV, List.map_take]; exact r.take _) |> fun q => by rw [zV, List.map_take] at q; exact q⟩ (fun b hb => by cases List.mem_singleton.mp hb; exact get?_end _) (by simp [foot])
  exact ⟨_, _, h _, rfl, k', g₁.trans g'⟩
end Mine
end
section
open PySem PySem.Spec PySem.Calls PyProof.Rows PySem.P
namespace Mine
section
variable {α : Type} {a b c d e f g h i j k m n : α} {l l2 : List α}
theorem pk5 (p : l.Perm (b :: c :: d :: e :: f :: l2)) : (a :: l).Perm (b :: c :: d :: e :: f :: a :: l2) := (p.cons a).trans (List.perm_middle (l₁ := [b, c, d, e, f])).symm
theorem pk6 (p : l.Perm (b :: c :: d :: e :: f :: g :: l2)) : (a :: l).Perm (b :: c :: d :: e :: f :: g :: a :: l2) := (p.cons a).trans (List.perm_middle (l₁ := [b, c, d, e, f, g])).symm
theorem pk10 (p : l.Perm (b :: c :: d :: e :: f :: g :: h :: i :: j :: k :: l2)) : (a :: l).Perm (b :: c :: d :: e :: f :: g :: h :: i :: j :: k :: a :: l2) := (p.cons a).trans (List.perm_middle (l₁ := [b, c, d, e, f, g, h, i, j, k])).symm
end
theorem perm_tok {α : Type} {X A M R : List α} {t p : α} (h : M.Perm ((X ++ [p]) ++ R)) : (A ++ t :: M).Perm ((X ++ [t] ++ [p]) ++ (A ++ R)) := by
  have h1 : (A ++ t :: M).Perm (A ++ (t :: ((X ++ [p]) ++ R))) := (h.cons t).append_left A
  refine h1.trans ?_
  have h2 : (t :: ((X ++ [p]) ++ R)).Perm ((X ++ [t] ++ [p]) ++ R) := by
    have : ((X ++ [t] ++ [p]) ++ R) = X ++ t :: ([p] ++ R) := by simp
    rw [this]
    have e : t :: ((X ++ [p]) ++ R) = t :: (X ++ ([p] ++ R)) := by simp
    rw [e]
    exact List.perm_middle.symm
  refine (h2.append_left A).trans ?_
  exact List.perm_append_comm_assoc _ _ _
theorem perm_tok' {α : Type} {X A M R : List α} {t p : α} (h : ((X ++ [p]) ++ R).Perm M) : ((X ++ [t] ++ [p]) ++ (A ++ R)).Perm (A ++ t :: M) := (perm_tok h.symm).symm
theorem flat_get {α β : Type} {f : α → List β} {w : Nat} (hw : ∀ x, (f x).length = w) : ∀ {l : List α} {i : Nat} {x : α} {j : Nat}, l[i]? = some x → j < w → (l.flatMap f)[w * i + j]? = (f x)[j]?
  | [], i, x, j, h, _ => by simp at h
  | y :: l, 0, x, j, h, hj => by
    have e : y = x := by simpa using h
    subst e
    rw [List.flatMap_cons, Nat.mul_zero, Nat.zero_add, List.getElem?_append_left (by rw [hw]; exact hj)]
  | y :: l, i + 1, x, j, h, hj => by
    rw [List.flatMap_cons, List.getElem?_append_right (by rw [hw, Nat.mul_succ]; omega), hw, Nat.mul_succ, show w * i + w + j - w = w * i + j by omega]
    exact flat_get hw (by simpa using h) hj
theorem Exs.mono {T : TI} {A : Around} {env : Env} {ℓ : Lo} {H : Cs} {sts : List Stmt} {K K' : Fl → Lo → Cs → Prop} (h : Exs T A env ℓ H sts K) (hk : ∀ f ℓ H, K f ℓ H → K' f ℓ H) : Exs T A env ℓ H sts K' := by
  refine ⟨fun s k => wpAny_mono (h.run s k) ?_ fun _ _ e => e⟩
  rintro x s' ⟨v, C', ⟨ℓ', H', rfl, hK⟩, r, k', g'⟩
  exact PostG.stI (v := v) (hk _ _ _ hK) r k' g'
theorem Turn.one {T : TI} {env : Env} {ℓ : Lo} {H : Cs} {p : Addr × Cell} (h : p ∈ H) : Turn T env ℓ H [p] := fun s k => k.drop ((List.singleton_sublist.mpr h).trans (List.sublist_cons_self _ _))
end Mine
end
namespace Mine
-- the walk
local macro_rules | `(tactic| walk_at "lk") => `(tactic| repeat (first | with_reducible exact lk_hit | (with_reducible refine lk_miss ?_ ?_; (case refine_1 => decide +kernel))))
local macro_rules | `(tactic| walk_at "up") => `(tactic| repeat (first | with_reducible exact Upd.nil | with_reducible exact Upd.hit | (with_reducible apply Upd.miss; (case hne => decide +kernel))))
local macro_rules | `(tactic| walk_at "pm") => `(tactic| repeat (first | with_reducible exact List.Perm.refl _ | with_reducible refine List.Perm.cons _ ?_ | with_reducible refine pk1 ?_ | with_reducible refine pk2 ?_ | with_reducible refine pk3 ?_ | with_reducible refine pk4 ?_ | with_reducible refine pk5 ?_ | with_reducible refine pk6 ?_ | with_reducible refine pk7 ?_ | with_reducible refine pk8 ?_ | with_reducible refine pk9 ?_ | with_reducible refine pk10 ?_ | with_reducible refine pk11 ?_ | with_reducible refine pk12 ?_))
local macro_rules | `(tactic| walk_at "ev") => `(tactic| first
  | refine Ev_int ?_ | refine Ev_str ?_ | refine Ev_none ?_ | refine Ev_bool ?_
  | (refine Ev_name (v := ?v) ?l ?_; (case l => walk_at "lk"))
  | refine Ev_binop ?_ | refine Ev_compare ?_ | refine Ev_upto ?_ | refine Ev_sub ?_ | refine Ev_ifexp ?_ | refine Ev_tuple ?_
  | refine Evs_cons ?_ | refine Evs_nil ?_
  | refine Tr_compare ?_ | refine Tr_not ?_ | refine Tr_and ?_ | refine Tr_or ?_
  | refine O_add ?_ | refine O_sub ?_ | refine O_iadd ?_ | refine O_lt ?_ | refine O_le ?_ | refine O_gt ?_ | refine O_eq ?_ | refine O_ne ?_
  | refine Exs_nil ?_ | refine Exs_cons ?_
  | refine Ex_assign ?_ | refine Ex_if ?_ | refine Ex_return ?_ | refine Ex_break ?_ | refine Ex_continue ?_ | refine Ex_setitem ?_ | refine Ex_expr ?_
  | (apply exu; (case u => walk_at "up")) | refine inI ?_ | refine ⟨_, rfl, ?_⟩)
section
open PySem PySem.Spec PySem.Calls PyProof.Rows PySem.P
noncomputable abbrev Pr : Program := PySem.Challenge.pw_mr0160_01


noncomputable def LtOk (T : TI) (v w : V) (b : Bool) : Prop := ∀ A n C K, Rm A (n + 1) → K (.bool b) C → OpC T A C .Lt v w K

noncomputable def siftdn (lt : V → V → Bool) (start : Nat) (x : V) (pos : Nat) (vs : List V) : List V :=
  if start < pos then
    if lt x (vs.getD ((pos - 1) / 2) .none) then siftdn lt start x ((pos - 1) / 2) (vs.set pos (vs.getD ((pos - 1) / 2) .none)) else vs.set pos x
  else vs.set pos x
termination_by pos
decreasing_by omega

/-- a def of the text -/
noncomputable def FnAt (T : TI) (x : String) (i : Nat) : Prop := ∃ a pm cd, GlobIs T (Str.ofString x) (.ref a) ∧ DefAt T a (fdOf (Str.ofString x) pm cd (stAt Pr i)) (fdB (stAt Pr i))
/-- what the walk leans on of the top -/
structure Tp (T : TI) : Prop where
  ng : mainGlobals ≠ T.tb
  nb : builtinsNs ≠ T.tb
  len : BuiltIs T (Str.ofString "len") (.builtin "len")
  heappop : FnAt T "heappop" 2
  heapreplace : FnAt T "heapreplace" 3
  heapify : FnAt T "heapify" 4
  siftdown : FnAt T "_siftdown" 5
  siftup : FnAt T "_siftup" 6
variable {T : TI} {A : Around}
theorem siftdown_body {n : Nat} {a : Addr} {vs : List V} {start pos : Nat} {x : V} {fd : FuncData} {L : Addr} {lt : V → V → Bool} {S : V → Prop}
    (hlt : ∀ v w, S v → S w → LtOk T v w (lt v w)) (hS : ∀ v ∈ vs, S v) (hx : vs[pos]? = some x) (hp : pos < vs.length) (hlen : vs.length ≤ 1000) (rm : Rm A (n + 1)) (hfd : ∃ pm cd, fd = fdOf (Str.ofString "_siftdown") pm cd (stAt Pr 5)) {aa : Addr} {K : Fl → Lo → Cs → Prop}
    (h : ∀ ℓ, K .next ℓ [(a, .list (siftdn lt start x pos vs))]) :
    Exs T A (callEnv fd L aa) [(Str.ofString "heap", .ref a), (Str.ofString "startpos", .int start), (Str.ofString "pos", .int pos)] [(a, .list vs)] (fdB (stAt Pr 5)) K := by
  obtain ⟨pm, cd, rfl⟩ := hfd
  walk_at "ev"
  walk_at "ev"
  walk_at "ev"
  walk_at "ev"
  walk_at "ev"
  refine O_item (i := 1) rfl (by omega) (by omega) (v := x) ?_ ?_
  · simpa using hx
  refine ⟨_, rfl, ?_⟩
  walk_at "ev"
  walk_at "ev"
  refine Ex_while ?_
  have hSx : S x := hS x (List.mem_of_getElem? hx)
  clear hx
  induction pos using Nat.strongRecOn generalizing vs with
  | ind pos ih =>
    rw [siftdn] at h
    refine Wh_step ?_
    repeat walk_at "ev"
    refine sb (fun hb => ?_) (fun hb => ?_)
    · have hlt' : start < pos := by simpa using hb
      rw [if_pos hlt'] at h
      have hpp : (pos - 1) / 2 < vs.length := by omega
      have hg : vs[(pos - 1) / 2]? = some (vs.getD ((pos - 1) / 2) .none) := by simp [List.getD, hpp]
      generalize hpar : vs.getD ((pos - 1) / 2) .none = par at h hg
      have hSp : S par := hS par (List.mem_of_getElem? hg)
      repeat walk_at "ev"
      refine O_rsh (by decide) ?_
      rw [rsh1 (by omega)]
      repeat walk_at "ev"
      refine O_item (i := 1) rfl (by omega) (by omega) (v := par) (by rw [Int.toNat_natCast]; exact hg) ?_
      repeat walk_at "ev"
      refine hlt x par hSx hSp _ n _ _ rm ?_
      repeat walk_at "ev"
      refine sb (fun hb' => ?_) (fun hb' => ?_)
      · rw [if_pos hb'] at h
        repeat walk_at "ev"
        refine ⟨a, 0, vs, pos, rfl, rfl, rfl, by omega, by omega, by omega, ?_⟩
        repeat walk_at "ev"
        refine Wh.forget (ℓ' := [(Str.ofString "heap", .ref a), (Str.ofString "startpos", .int start), (Str.ofString "pos", .int ((pos - 1) / 2 : Nat)), (Str.ofString "newitem", x)]) (by repeat (first | exact Sub_nil | apply Sub_cons)) ?_
        refine ih _ (by omega) (fun v hv => ?_) (by simpa using hpp) (by simpa using hlen) (by simpa using h)
        rcases List.mem_or_eq_of_mem_set hv with hv | rfl
        · exact hS v hv
        · exact hSp
      · rw [if_neg (by rw [hb']; decide)] at h
        repeat walk_at "ev"
        refine ⟨a, 0, vs, pos, rfl, rfl, rfl, by omega, by omega, by omega, ?_⟩
        repeat walk_at "ev"
        simpa using h _
    · have hlt' : ¬ start < pos := by simpa using hb
      rw [if_neg hlt'] at h
      repeat walk_at "ev"
      refine ⟨a, 0, vs, pos, rfl, rfl, rfl, by omega, by omega, by omega, ?_⟩
      walk_at "ev"
      simpa using h _

theorem names3 {x y z : Str} (h1 : (x == y) = false) (h2 : (x == z) = false) (h3 : (y == z) = false) : [x, y, z].Nodup := by
  simp only [beq_eq_false_iff_ne] at h1 h2 h3
  simp [h1, h2, h3]
theorem names2 {x y : Str} (h1 : (x == y) = false) : [x, y].Nodup := by
  simp only [beq_eq_false_iff_ne] at h1
  simp [h1]
theorem len3 {α : Type} {xs : List α} (h : xs.length = 3) : ∃ x y z, xs = [x, y, z] := by
  match xs, h with
  | [x, y, z], _ => exact ⟨x, y, z, rfl⟩
theorem len2 {α : Type} {xs : List α} (h : xs.length = 2) : ∃ x y, xs = [x, y] := by
  match xs, h with
  | [x, y], _ => exact ⟨x, y, rfl⟩
theorem len1 {α : Type} {xs : List α} (h : xs.length = 1) : ∃ x, xs = [x] := by
  match xs, h with
  | [x], _ => exact ⟨x, rfl⟩
theorem all_local {fd : FuncData} {names : List Str} (h : (names.all fun x => decide (fd.scope.names.lookup x = some .local)) = true) : ∀ x ∈ names, fd.scope.names.lookup x = some .local := fun x hx => of_decide_eq_true (List.all_eq_true.mp h x hx)
theorem no_cell {fd : FuncData} (h : (fd.scope.names.all fun x => x.2 != .cell) = true) : ∀ x ∈ fd.scope.names, x.2 ≠ .cell := fun x hx => by simpa using List.all_eq_true.mp h x hx
theorem siftdown_call {n : Nat} {a h : Addr} {vs : List V} {start pos : Nat} {x : V} {pm cd : Value} {lt : V → V → Bool} {S : V → Prop} (d : DefAt T a (fdOf (Str.ofString "_siftdown") pm cd (stAt Pr 5)) (fdB (stAt Pr 5)))
    (hlt : ∀ v w, S v → S w → LtOk T v w (lt v w)) (hS : ∀ v ∈ vs, S v) (hx : vs[pos]? = some x) (hlen : vs.length ≤ 1000) (rm : Rm A (n + 2)) :
    Call T A [(h, .list vs)] (.ref a) [.ref h, .int start, .int pos] (fun v C' => v = .none ∧ C' = [(h, .list (siftdn lt start x pos vs))]) := by
  refine Call_def (n := n + 1) (names := [Str.ofString "heap", Str.ofString "startpos", Str.ofString "pos"]) (ℓ₀ := [(Str.ofString "heap", .ref h), (Str.ofString "startpos", .int start), (Str.ofString "pos", .int pos)]) d rm (fun xs hxs => ?_) (names3 (by decide +kernel) (by decide +kernel) (by decide +kernel)) rfl (no_cell (by kernel_rfl)) (all_local (by kernel_rfl)) (fun L => ?_)
  · obtain ⟨x, y, z, rfl⟩ := len3 hxs
    kernel_rfl
  · exact siftdown_body hlt hS hx (List.getElem?_eq_some_iff.mp hx).1 hlen (rm.deeper _) ⟨pm, cd, rfl⟩ fun ℓ => ⟨_, List.Sublist.refl _, rfl, rfl⟩

noncomputable def upgo (lt : V → V → Bool) (pos : Nat) (vs : List V) : Nat × List V :=
  if 2 * pos + 1 < vs.length then
    if 2 * pos + 2 < vs.length ∧ lt (vs.getD (2 * pos + 1) .none) (vs.getD (2 * pos + 2) .none) = false then upgo lt (2 * pos + 2) (vs.set pos (vs.getD (2 * pos + 2) .none))
    else upgo lt (2 * pos + 1) (vs.set pos (vs.getD (2 * pos + 1) .none))
  else (pos, vs)
termination_by vs.length - pos
decreasing_by all_goals (simp; omega)
theorem upgo_length (lt : V → V → Bool) : ∀ (k pos : Nat) (vs : List V), vs.length - pos ≤ k → (upgo lt pos vs).2.length = vs.length
  | 0, pos, vs, h => by
    rw [upgo, if_neg (by omega)]
  | k + 1, pos, vs, h => by
    rw [upgo]
    split
    · split
      · rw [upgo_length lt k _ _ (by simp; omega)]; simp
      · rw [upgo_length lt k _ _ (by simp; omega)]; simp
    · rfl
theorem upgo_lt (lt : V → V → Bool) : ∀ (k pos : Nat) (vs : List V), vs.length - pos ≤ k → pos < vs.length → (upgo lt pos vs).1 < vs.length
  | 0, pos, vs, h, hp => by omega
  | k + 1, pos, vs, h, hp => by
    rw [upgo]
    split
    · split
      · have := upgo_lt lt k (2 * pos + 2) (vs.set pos (vs.getD (2 * pos + 2) .none)) (by simp; omega) (by simp; omega); simpa using this
      · have := upgo_lt lt k (2 * pos + 1) (vs.set pos (vs.getD (2 * pos + 1) .none)) (by simp; omega) (by simp; omega); simpa using this
    · exact hp
theorem getD_mem {vs : List V} {i : Nat} (h : i < vs.length) : vs.getD i .none ∈ vs := by
  rw [List.getD_eq_getElem?_getD, List.getElem?_eq_getElem h]; exact List.getElem_mem h
theorem getD_at {vs : List V} {i : Nat} (h : i < vs.length) : vs[i]? = some (vs.getD i .none) := by
  rw [List.getD_eq_getElem?_getD, List.getElem?_eq_getElem h]; rfl
theorem upgo_all {S : V → Prop} (lt : V → V → Bool) : ∀ (k pos : Nat) (vs : List V), vs.length - pos ≤ k → (∀ v ∈ vs, S v) → ∀ v ∈ (upgo lt pos vs).2, S v
  | 0, pos, vs, h, hS => by
    rw [upgo, if_neg (by omega)]; exact hS
  | k + 1, pos, vs, h, hS => by
    rw [upgo]
    have hset : ∀ i, i < vs.length → ∀ v ∈ vs.set pos (vs.getD i .none), S v := fun i hi v hv => by
      rcases List.mem_or_eq_of_mem_set hv with hv | rfl
      · exact hS v hv
      · exact hS _ (getD_mem hi)
    split
    · split
      · exact upgo_all lt k _ _ (by simp; omega) (hset _ (by omega))
      · exact upgo_all lt k _ _ (by simp; omega) (hset _ (by omega))
    · exact hS
noncomputable def siftup (lt : V → V → Bool) (pos : Nat) (vs : List V) : List V :=
  siftdn lt pos (vs.getD pos .none) (upgo lt pos vs).1 ((upgo lt pos vs).2.set (upgo lt pos vs).1 (vs.getD pos .none))
theorem siftup_call (tp : Tp T) {n : Nat} {a h : Addr} {vs : List V} {pos : Nat} {pm cd : Value} {lt : V → V → Bool} {S : V → Prop} (d : DefAt T a (fdOf (Str.ofString "_siftup") pm cd (stAt Pr 6)) (fdB (stAt Pr 6)))
    (hlt : ∀ v w, S v → S w → LtOk T v w (lt v w)) (hS : ∀ v ∈ vs, S v) (hp : pos < vs.length) (hlen : vs.length ≤ 1000) (rm : Rm A (n + 4)) :
    Call T A [(h, .list vs)] (.ref a) [.ref h, .int pos] (fun v C' => v = .none ∧ C' = [(h, .list (siftup lt pos vs))]) := by
  obtain ⟨aD, pmD, cdD, hgD, hdD⟩ := tp.siftdown
  refine Call_def (n := n + 3) (names := [Str.ofString "heap", Str.ofString "pos"]) (ℓ₀ := [(Str.ofString "heap", .ref h), (Str.ofString "pos", .int pos)]) d rm (fun xs hxs => ?_) (names2 (by decide +kernel)) rfl (no_cell (by kernel_rfl)) (all_local (by kernel_rfl)) (fun L => ?_)
  · obtain ⟨x, y, rfl⟩ := len2 hxs
    kernel_rfl
  have rm' := rm.deeper (callEnv (fdOf (Str.ofString "_siftup") pm cd (stAt Pr 6)) L a)
  generalize A.deeper (callEnv (fdOf (Str.ofString "_siftup") pm cd (stAt Pr 6)) L a) = A' at rm' ⊢
  refine Exs_cons ?_
  refine Ex_assign ?_
  refine Ev_call ?_
  refine Ev_builtin (v := .bi "len") tp.len tp.ng tp.nb (fun _ => rfl) ?_
  refine ⟨_, rfl, ?_⟩
  repeat walk_at "ev"
  refine ⟨.inl ⟨_, rfl⟩, Call_len (i := 1) rfl (by omega) ?_⟩
  repeat walk_at "ev"
  refine O_item (i := 1) rfl (by omega) (by omega) (v := vs.getD pos .none) (by rw [Int.toNat_natCast]; exact getD_at hp) ?_
  repeat walk_at "ev"
  refine O_mul (.of_left (by decide)) ?_
  repeat walk_at "ev"
  refine Ex_while ?_
  have hSx : S (vs.getD pos .none) := hS _ (getD_mem hp)
  have hR : siftdn lt pos (vs.getD pos .none) (upgo lt pos vs).1 ((upgo lt pos vs).2.set (upgo lt pos vs).1 (vs.getD pos .none)) = siftup lt pos vs := rfl
  generalize siftup lt pos vs = R at hR ⊢
  generalize vs.getD pos .none = x at hR hSx ⊢
  refine Wh_ind (ι := Nat × List V) (fun i ℓ H => ℓ = [(Str.ofString "heap", V.ref h), (Str.ofString "pos", V.int i.1), (Str.ofString "endpos", V.int vs.length), (Str.ofString "startpos", V.int pos), (Str.ofString "newitem", x), (Str.ofString "childpos", V.int (2 * (i.1 : Int) + 1))] ∧ H = [(h, Cell.list i.2)] ∧
    i.1 < i.2.length ∧ i.2.length = vs.length ∧ (∀ v ∈ i.2, S v) ∧ siftdn lt pos x (upgo lt i.1 i.2).1 ((upgo lt i.1 i.2).2.set (upgo lt i.1 i.2).1 x) = R) (fun i => i.2.length - i.1) ?_ (pos, vs) ⟨rfl, rfl, hp, rfl, hS, hR⟩
  rintro ⟨p, ws⟩ ℓ H ⟨rfl, rfl, hpw, hl, hSw, hRw⟩ ih
  dsimp only at hpw hl hSw hRw ih ⊢
  rw [upgo] at hRw
  have mem : ∀ i, i < ws.length → ∀ v ∈ ws.set p (ws.getD i .none), S v := fun i hi v hv => by
    rcases List.mem_or_eq_of_mem_set hv with hv | rfl
    · exact hSw v hv
    · exact hSw _ (getD_mem hi)
  refine Wh_step ?_
  repeat walk_at "ev"
  refine sb (fun hb => ?_) (fun hb => ?_)
  · have h1 : 2 * p + 1 < ws.length := by simp at hb; omega
    rw [if_pos h1] at hRw
    have e1 : (2 * (p : Int) + 1).toNat = 2 * p + 1 := by omega
    have e2 : (2 * (p : Int) + 1 + 1).toNat = 2 * p + 2 := by omega
    have c1 : (2 * (p : Int) + 1) = ((2 * p + 1 : Nat) : Int) := by omega
    have c2 : (2 * (p : Int) + 1 + 1) = ((2 * p + 2 : Nat) : Int) := by omega
    repeat walk_at "ev"
    refine sb (fun hb2 => ?_) (fun hb2 => ?_)
    · have h2 : 2 * p + 2 < ws.length := by simp at hb2; omega
      repeat walk_at "ev"
      refine O_item (i := 1) rfl (by omega) (by omega) (v := ws.getD (2 * p + 1) .none) (by rw [e1]; exact getD_at h1) ?_
      repeat walk_at "ev"
      refine O_item (i := 1) rfl (by omega) (by omega) (v := ws.getD (2 * p + 2) .none) (by rw [e2]; exact getD_at h2) ?_
      repeat walk_at "ev"
      refine hlt _ _ (hSw _ (getD_mem h1)) (hSw _ (getD_mem h2)) _ _ _ _ rm' ?_
      repeat walk_at "ev"
      refine sb (fun hb3 => ?_) (fun hb3 => ?_)
      · rw [if_pos ⟨h2, by simpa using hb3⟩] at hRw
        repeat walk_at "ev"
        refine O_item (i := 1) rfl (by omega) (by omega) (v := ws.getD (2 * p + 2) .none) (by rw [e2]; exact getD_at h2) ?_
        repeat walk_at "ev"
        refine ⟨h, 0, ws, p, rfl, rfl, rfl, by omega, by omega, by omega, ?_⟩
        repeat walk_at "ev"
        refine O_mul (.of_left (by decide)) ?_
        repeat walk_at "ev"
        rw [c2, Int.toNat_natCast]
        refine Wh.forget (ℓ' := [(Str.ofString "heap", V.ref h), (Str.ofString "pos", V.int (2 * p + 2 : Nat)), (Str.ofString "endpos", V.int vs.length), (Str.ofString "startpos", V.int pos), (Str.ofString "newitem", x), (Str.ofString "childpos", V.int (2 * ((2 * p + 2 : Nat) : Int) + 1))]) (by repeat (first | exact Sub_nil | apply Sub_cons)) ?_
        exact ih (2 * p + 2, ws.set p (ws.getD (2 * p + 2) .none)) _ _ (by simp; omega) ⟨rfl, rfl, by simpa using h2, by simpa using hl, mem _ h2, hRw⟩
      · rw [if_neg (by rintro ⟨_, e⟩; rw [e] at hb3; simp at hb3)] at hRw
        repeat walk_at "ev"
        refine O_item (i := 1) rfl (by omega) (by omega) (v := ws.getD (2 * p + 1) .none) (by rw [e1]; exact getD_at h1) ?_
        repeat walk_at "ev"
        refine ⟨h, 0, ws, p, rfl, rfl, rfl, by omega, by omega, by omega, ?_⟩
        repeat walk_at "ev"
        refine O_mul (.of_left (by decide)) ?_
        repeat walk_at "ev"
        rw [c1, Int.toNat_natCast]
        refine Wh.forget (ℓ' := [(Str.ofString "heap", V.ref h), (Str.ofString "pos", V.int (2 * p + 1 : Nat)), (Str.ofString "endpos", V.int vs.length), (Str.ofString "startpos", V.int pos), (Str.ofString "newitem", x), (Str.ofString "childpos", V.int (2 * ((2 * p + 1 : Nat) : Int) + 1))]) (by repeat (first | exact Sub_nil | apply Sub_cons)) ?_
        exact ih (2 * p + 1, ws.set p (ws.getD (2 * p + 1) .none)) _ _ (by simp; omega) ⟨rfl, rfl, by simpa using h1, by simpa using hl, mem _ h1, hRw⟩
    · have h2 : ¬ 2 * p + 2 < ws.length := by simp at hb2; omega
      rw [if_neg fun e => h2 e.1] at hRw
      refine sbF ?_
      repeat walk_at "ev"
      refine O_item (i := 1) rfl (by omega) (by omega) (v := ws.getD (2 * p + 1) .none) (by rw [e1]; exact getD_at h1) ?_
      repeat walk_at "ev"
      refine ⟨h, 0, ws, p, rfl, rfl, rfl, by omega, by omega, by omega, ?_⟩
      repeat walk_at "ev"
      refine O_mul (.of_left (by decide)) ?_
      repeat walk_at "ev"
      rw [c1, Int.toNat_natCast]
      refine Wh.forget (ℓ' := [(Str.ofString "heap", V.ref h), (Str.ofString "pos", V.int (2 * p + 1 : Nat)), (Str.ofString "endpos", V.int vs.length), (Str.ofString "startpos", V.int pos), (Str.ofString "newitem", x), (Str.ofString "childpos", V.int (2 * ((2 * p + 1 : Nat) : Int) + 1))]) (by repeat (first | exact Sub_nil | apply Sub_cons)) ?_
      exact ih (2 * p + 1, ws.set p (ws.getD (2 * p + 1) .none)) _ _ (by simp; omega) ⟨rfl, rfl, by simpa using h1, by simpa using hl, mem _ h1, hRw⟩
  · have h1 : ¬ 2 * p + 1 < ws.length := by simp at hb; omega
    rw [if_neg h1] at hRw
    repeat walk_at "ev"
    refine ⟨h, 0, ws, p, rfl, rfl, rfl, by omega, by omega, by omega, ?_⟩
    repeat walk_at "ev"
    refine Ev_call ?_
    refine Ev_glob hgD tp.ng ?_
    refine ⟨_, rfl, ?_⟩
    repeat walk_at "ev"
    rw [Int.toNat_natCast]
    refine ⟨hdD.callee _, Call.at (i := 1) (siftdown_call (x := x) hdD hlt (fun v hv => ?_) (by simp [hpw]) (by simp; omega) rm') rfl ?_⟩
    · rcases List.mem_or_eq_of_mem_set hv with hv | rfl
      · exact hSw v hv
      · exact hSx
    rintro v C' ⟨rfl, rfl⟩
    refine ⟨_, rfl, _, rfl, rfl, ?_⟩
    refine Exs_nil ?_
    exact ⟨_, List.Sublist.refl _, rfl, by rw [← hRw]; rfl⟩
end
section
open PySem PySem.Spec PySem.Calls PyProof.Rows PySem.P
variable {T : TI} {A : Around}
theorem heapreplace_call (tp : Tp T) {n : Nat} {a h : Addr} {v0 x : V} {vs : List V} {pm cd : Value} {lt : V → V → Bool} {S : V → Prop} (d : DefAt T a (fdOf (Str.ofString "heapreplace") pm cd (stAt Pr 3)) (fdB (stAt Pr 3)))
    (hlt : ∀ v w, S v → S w → LtOk T v w (lt v w)) (hS : ∀ v ∈ vs, S v) (hx : S x) (hlen : vs.length ≤ 900) (rm : Rm A (n + 5)) :
    Call T A [(h, .list (v0 :: vs))] (.ref a) [.ref h, x] (fun v C' => v = v0 ∧ C' = [(h, .list (siftup lt 0 (x :: vs)))]) := by
  obtain ⟨aD, pmD, cdD, hgD, hdD⟩ := tp.siftup
  refine Call_def (n := n + 4) (names := [Str.ofString "heap", Str.ofString "item"]) (ℓ₀ := [(Str.ofString "heap", .ref h), (Str.ofString "item", x)]) d rm (fun xs hxs => ?_) (names2 (by decide +kernel)) rfl (no_cell (by kernel_rfl)) (all_local (by kernel_rfl)) (fun L => ?_)
  · obtain ⟨x, y, rfl⟩ := len2 hxs
    kernel_rfl
  have rm' := rm.deeper (callEnv (fdOf (Str.ofString "heapreplace") pm cd (stAt Pr 3)) L a)
  generalize A.deeper (callEnv (fdOf (Str.ofString "heapreplace") pm cd (stAt Pr 3)) L a) = A' at rm' ⊢
  repeat walk_at "ev"
  refine O_item (i := 1) rfl (by omega) (by omega) (v := v0) rfl ?_
  repeat walk_at "ev"
  refine ⟨h, 0, _, 0, rfl, rfl, rfl, by omega, by simp, by simp; omega, ?_⟩
  repeat walk_at "ev"
  refine Ev_call ?_
  refine Ev_glob hgD tp.ng ?_
  refine ⟨_, rfl, ?_⟩
  repeat walk_at "ev"
  refine ⟨hdD.callee _, Call.at (i := 1) (siftup_call tp (n := n) (lt := lt) (S := S) (pos := 0) hdD hlt (fun v hv => ?_) (by simp) (by simp; omega) rm') rfl ?_⟩
  · rcases List.mem_cons.mp hv with rfl | hv
    · exact hx
    · exact hS v hv
  rintro _ _ ⟨rfl, rfl⟩
  refine ⟨_, rfl, _, rfl, rfl, ?_⟩
  repeat walk_at "ev"
  exact ⟨_, List.Sublist.refl _, rfl, rfl⟩
noncomputable def popH (lt : V → V → Bool) (vs : List V) (last : V) : V × List V := match vs with
  | [] => (last, [])
  | v0 :: r => (v0, siftup lt 0 (last :: r))
theorem heappop_call (tp : Tp T) {n : Nat} {a h : Addr} {last : V} {vs : List V} {pm cd : Value} {lt : V → V → Bool} {S : V → Prop} (d : DefAt T a (fdOf (Str.ofString "heappop") pm cd (stAt Pr 2)) (fdB (stAt Pr 2)))
    (hlt : ∀ v w, S v → S w → LtOk T v w (lt v w)) (hS : ∀ v ∈ vs, S v) (hx : S last) (hlen : vs.length ≤ 900) (rm : Rm A (n + 5)) :
    Call T A [(h, .list (vs ++ [last]))] (.ref a) [.ref h] (fun v C' => v = (popH lt vs last).1 ∧ C' = [(h, .list (popH lt vs last).2)]) := by
  obtain ⟨aD, pmD, cdD, hgD, hdD⟩ := tp.siftup
  refine Call_def (n := n + 4) (names := [Str.ofString "heap"]) (ℓ₀ := [(Str.ofString "heap", .ref h)]) d rm (fun xs hxs => ?_) (by simp) rfl (no_cell (by kernel_rfl)) (all_local (by kernel_rfl)) (fun L => ?_)
  · obtain ⟨x, rfl⟩ := len1 hxs
    kernel_rfl
  have rm' := rm.deeper (callEnv (fdOf (Str.ofString "heappop") pm cd (stAt Pr 2)) L a)
  generalize A.deeper (callEnv (fdOf (Str.ofString "heappop") pm cd (stAt Pr 2)) L a) = A' at rm' ⊢
  repeat walk_at "ev"
  refine Ev_method ?_
  repeat walk_at "ev"
  refine ⟨_, GM_list (i := 1) rfl F.slot_list_pop F.type_list_pop, .inl ⟨_, rfl⟩, ?_⟩
  repeat walk_at "ev"
  refine ⟨.inl ⟨_, rfl⟩, Call_pop (i := 1) rfl (by omega) ?_⟩
  repeat walk_at "ev"
  refine Tr_value ?_
  repeat walk_at "ev"
  refine T_list (i := 1) rfl (by omega) ?_
  repeat walk_at "ev"
  cases vs with
  | nil =>
    refine sbF ?_
    repeat walk_at "ev"
    exact ⟨_, List.Sublist.refl _, rfl, rfl⟩
  | cons v0 r =>
    refine sbT ?_
    repeat walk_at "ev"
    refine O_item (i := 1) rfl (by omega) (by omega) (v := v0) rfl ?_
    repeat walk_at "ev"
    refine ⟨h, 0, _, 0, rfl, rfl, rfl, by omega, by simp, by omega, ?_⟩
    repeat walk_at "ev"
    refine Ev_call ?_
    refine Ev_glob hgD tp.ng ?_
    refine ⟨_, rfl, ?_⟩
    repeat walk_at "ev"
    refine ⟨hdD.callee _, Call.at (i := 1) (siftup_call tp (n := n) (lt := lt) (S := S) (pos := 0) hdD hlt (fun v hv => ?_) (by simp) (by simp at hlen ⊢; omega) rm') rfl ?_⟩
    · rcases List.mem_cons.mp hv with rfl | hv
      · exact hx
      · exact hS v (.tail _ hv)
    rintro _ _ ⟨rfl, rfl⟩
    refine ⟨_, rfl, _, rfl, rfl, ?_⟩
    repeat walk_at "ev"
    exact ⟨_, List.Sublist.refl _, rfl, rfl⟩
theorem siftdn_length (lt : V → V → Bool) (start : Nat) (x : V) : ∀ (k pos : Nat) (vs : List V), pos ≤ k → (siftdn lt start x pos vs).length = vs.length
  | 0, pos, vs, h => by
    rw [siftdn, if_neg (by omega)]; simp
  | k + 1, pos, vs, h => by
    rw [siftdn]
    split
    · split
      · rw [siftdn_length lt start x k _ _ (by omega)]; simp
      · simp
    · simp
theorem siftdn_all {S : V → Prop} (lt : V → V → Bool) (start : Nat) (x : V) (hx : S x) : ∀ (k pos : Nat) (vs : List V), pos ≤ k → pos < vs.length → (∀ v ∈ vs, S v) → ∀ v ∈ siftdn lt start x pos vs, S v
  | 0, pos, vs, h, hp, hS => by
    rw [siftdn, if_neg (by omega)]
    intro v hv
    rcases List.mem_or_eq_of_mem_set hv with hv | rfl
    · exact hS v hv
    · exact hx
  | k + 1, pos, vs, h, hp, hS => by
    have h0 : ∀ v ∈ vs.set pos x, S v := fun v hv => by
      rcases List.mem_or_eq_of_mem_set hv with hv | rfl
      · exact hS v hv
      · exact hx
    rw [siftdn]
    split
    · split
      · refine siftdn_all lt start x hx k _ _ (by omega) (by simp; omega) fun v hv => ?_
        rcases List.mem_or_eq_of_mem_set hv with hv | rfl
        · exact hS v hv
        · exact hS _ (getD_mem (by omega))
      · exact h0
    · exact h0
theorem siftup_length (lt : V → V → Bool) (pos : Nat) (vs : List V) : (siftup lt pos vs).length = vs.length := by
  unfold siftup
  rw [siftdn_length lt pos _ _ _ _ (Nat.le_refl _), List.length_set, upgo_length lt _ pos vs (Nat.le_refl _)]
theorem siftup_all {S : V → Prop} (lt : V → V → Bool) {pos : Nat} {vs : List V} (hp : pos < vs.length) (hS : ∀ v ∈ vs, S v) : ∀ v ∈ siftup lt pos vs, S v := by
  unfold siftup
  have h1 := upgo_lt lt _ pos vs (Nat.le_refl _) hp
  have h2 := upgo_length lt _ pos vs (Nat.le_refl _)
  have h3 := upgo_all (S := S) lt _ pos vs (Nat.le_refl _) hS
  have hx : S (vs.getD pos .none) := hS _ (getD_mem hp)
  refine siftdn_all lt pos _ hx _ _ _ (Nat.le_refl _) (by rw [List.length_set]; omega) fun v hv => ?_
  rcases List.mem_or_eq_of_mem_set hv with hv | rfl
  · exact h3 v hv
  · exact hx
noncomputable def heapGo (lt : V → V → Bool) : Nat → List V → List V
  | 0, vs => vs
  | k + 1, vs => heapGo lt k (siftup lt k vs)
/-- more of the top -/
structure Tq (T : TI) : Prop extends Tp T where
  range : BuiltIs T (Str.ofString "range") (.type "range")
  rev : BuiltIs T (Str.ofString "reversed") (.type "reversed")
  enum : BuiltIs T (Str.ofString "enumerate") (.type "enumerate")
  list : BuiltIs T (Str.ofString "list") (.type "list")
  iter : BuiltIs T (Str.ofString "iter") (.builtin "iter")
  sorted : BuiltIs T (Str.ofString "sorted") (.builtin "sorted")
theorem heapify_call (tq : Tq T) {n : Nat} {a h : Addr} {vs : List V} {pm cd : Value} {lt : V → V → Bool} {S : V → Prop} (d : DefAt T a (fdOf (Str.ofString "heapify") pm cd (stAt Pr 4)) (fdB (stAt Pr 4)))
    (hlt : ∀ v w, S v → S w → LtOk T v w (lt v w)) (hS : ∀ v ∈ vs, S v) (hlen : vs.length ≤ 900) (rm : Rm A (n + 5)) :
    Call T A [(h, .list vs)] (.ref a) [.ref h] (fun v C' => v = .none ∧ C' = [(h, .list (heapGo lt (vs.length / 2) vs))]) := by
  have tp := tq.toTp
  obtain ⟨aD, pmD, cdD, hgD, hdD⟩ := tp.siftup
  refine Call_def (n := n + 4) (names := [Str.ofString "x"]) (ℓ₀ := [(Str.ofString "x", .ref h)]) d rm (fun xs hxs => ?_) (by simp) rfl (no_cell (by kernel_rfl)) (all_local (by kernel_rfl)) (fun L => ?_)
  · obtain ⟨x, rfl⟩ := len1 hxs
    kernel_rfl
  have rm' := rm.deeper (callEnv (fdOf (Str.ofString "heapify") pm cd (stAt Pr 4)) L a)
  generalize A.deeper (callEnv (fdOf (Str.ofString "heapify") pm cd (stAt Pr 4)) L a) = A' at rm' ⊢
  refine Exs_cons ?_
  refine Ex_assign ?_
  refine Ev_call ?_
  refine Ev_builtin (v := .bi "len") tp.len tp.ng tp.nb (fun _ => rfl) ?_
  refine ⟨_, rfl, ?_⟩
  repeat walk_at "ev"
  refine ⟨.inl ⟨_, rfl⟩, Call_len (i := 1) rfl (by omega) ?_⟩
  repeat walk_at "ev"
  refine Ex_for ?_
  refine Ev_call ?_
  refine Ev_builtin (v := .ty "reversed") tq.rev tp.ng tp.nb (fun _ => rfl) ?_
  refine ⟨_, rfl, ?_⟩
  refine Evs_cons ?_
  refine Ev_call ?_
  refine Ev_builtin (v := .ty "range") tq.range tp.ng tp.nb (fun _ => rfl) ?_
  refine ⟨_, rfl, ?_⟩
  repeat walk_at "ev"
  refine O_fdiv (by omega) (by decide) ?_
  repeat walk_at "ev"
  have hdiv : ((vs.length : Int).fdiv 2) = ((vs.length / 2 : Nat) : Int) := fdiv2 vs.length 2
  rw [hdiv]
  refine ⟨.inr (.inl ⟨_, rfl⟩), Call.swap (Call_range fun r => ⟨_, _, rfl, ?_⟩)⟩
  repeat walk_at "ev"
  refine ⟨.inr (.inl ⟨_, rfl⟩), Call.swap (Call_reversed_rng (j := 1) (n := vs.length / 2) rfl (by omega) (by split <;> omega) (by omega) fun it => ⟨_, _, rfl, ?_⟩)⟩
  refine Itr_rit (j := 1) rfl ⟨_, rfl, ?_⟩
  have hR : heapGo lt (vs.length / 2) vs = heapGo lt (vs.length / 2) vs := rfl
  generalize hRR : heapGo lt (vs.length / 2) vs = R at hR
  refine Fo_ind (ι := Nat × List V) (fun i ℓ H => (∃ ℓ', ℓ = (Str.ofString "x", V.ref h) :: (Str.ofString "n", V.int vs.length) :: ℓ' ∧ (ℓ' = [] ∨ ∃ v, ℓ' = [(Str.ofString "i", v)])) ∧
    H = [(it, .rit ((i.1 : Int) - 1) i.1 (-1)), (r, .rng 0 ((vs.length / 2 : Nat) : Int) 1), (h, .list i.2)] ∧ i.1 ≤ i.2.length ∧ i.2.length = vs.length ∧ (∀ v ∈ i.2, S v) ∧ heapGo lt i.1 i.2 = R) (fun i => i.1) ?_ (vs.length / 2, vs) ⟨⟨[], rfl, .inl rfl⟩, rfl, by show vs.length / 2 ≤ vs.length; omega, rfl, hS, hRR⟩
  rintro ⟨k, ws⟩ ℓ H ⟨⟨ℓ', rfl, hℓ⟩, rfl, hk, hl, hSw, hRw⟩ ih
  dsimp only at hk hl hSw hRw ih ⊢
  refine Fo_step ?_
  cases k with
  | zero =>
    refine Nt_range_end (i := 1) rm' rfl (by simp) ⟨_, rfl, ?_⟩
    refine Exs_nil (Exs_nil ?_)
    refine ⟨[(h, .list ws)], ?_, rfl, ?_⟩
    · exact (List.sublist_cons_self _ _)
    · rw [← hRw]; rfl
  | succ k =>
    refine Nt_range (i := 1) rfl (by simp) ⟨_, rfl, ?_⟩
    refine Asn_name ?_
    have e1 : (((k + 1 : Nat) : Int) - 1) = (k : Int) := by omega
    rw [e1]
    have hu : ∃ ℓ₂, Upd (Str.ofString "i") (.int (k : Int)) ((Str.ofString "x", V.ref h) :: (Str.ofString "n", V.int vs.length) :: ℓ') ℓ₂ ∧ ℓ₂ = [(Str.ofString "x", V.ref h), (Str.ofString "n", V.int vs.length), (Str.ofString "i", .int k)] := by
      rcases hℓ with rfl | ⟨v, rfl⟩
      · refine ⟨_, ?_, rfl⟩
        walk_at "up"
      · refine ⟨_, ?_, rfl⟩
        walk_at "up"
    obtain ⟨_, hu, rfl⟩ := hu
    refine ⟨_, hu, ?_⟩
    refine Exs_cons ?_
    refine Ex_expr ?_
    refine Ev_call ?_
    refine Ev_glob hgD tp.ng ?_
    refine ⟨_, rfl, ?_⟩
    repeat walk_at "ev"
    refine ⟨hdD.callee _, Call.at (i := 3) (siftup_call tp (n := n) (lt := lt) (S := S) (pos := k) hdD hlt hSw (by omega) (by omega) rm') rfl ?_⟩
    rintro _ _ ⟨rfl, rfl⟩
    refine ⟨_, rfl, _, rfl, rfl, ?_⟩
    refine Exs_nil ?_
    refine ih (k, siftup lt k ws) _ _ (by omega) ⟨⟨_, rfl, .inr ⟨_, rfl⟩⟩, ?_, ?_, ?_, ?_, hRw⟩
    · simp
      omega
    · rw [siftup_length]; omega
    · rw [siftup_length]; exact hl
    · exact siftup_all lt (by omega) hSw
end
section
open PySem PySem.Spec PySem.Calls PyProof.Rows PySem.P
variable {T : TI} {A : Around}
noncomputable def fdIn (q : Str) (clos : List (Str × Addr)) (doc pm cd ctv : Value) : Stmt → FuncData
  | .FunctionDef name args body _ _ _ scope _ _ _ => PySem.W.fnX name q args body scope clos .none .none doc pm none cd ctv
  | _ => default
noncomputable def stPos : Stmt → Pos
  | .FunctionDef _ _ _ _ _ _ _ _ _ p => p
  | _ => ⟨0, 0, 0, 0⟩
noncomputable abbrev rdSt : Stmt := (fdB (stAt Pr 10)).getD 2 (.Pass ⟨0, 0, 0, 0⟩)
noncomputable abbrev rdQ : Str := Str.ofString "_law_tape.<locals>._law_read"
noncomputable abbrev rdFd (c : Addr) (doc pm : Value) (c' : Addr) (ctv : Value) : FuncData := fdIn rdQ [(Str.ofString "left", c)] doc pm (.ref c') ctv rdSt
noncomputable def chs (l : List Nat) : List V := sV (l.map fun c => [c])
noncomputable def Lim (T : TI) : Prop := cStatics ≠ T.tb ∧ ∃ m, T.h₁.Ns cStatics m ∧ m "sys.recursionlimit" = none
theorem flat1 : ∀ l : List Nat, (l.map fun c => [c]).flatten = l
  | [] => rfl
  | a :: l => by rw [List.map_cons, List.flatten_cons, flat1 l]; rfl
theorem read_call (lim : Lim T) {n : Nat} {f left c c' tb : Addr} {pos : Pos} {doc pm ctv : Value} {rest : List Nat} (rm : Rm A (n + 3)) (hl : rest.length ≤ 1000000) :
    Call T A [(f, .clo (rdFd c doc pm c' ctv) c (.ref left)), (left, .list (chs rest)), (tb, .tab1 c' pos rdQ)] (.ref f) [.int 1]
      (fun v C' => v = .str (S (rest.take 1)) ∧ C' = [(f, .clo (rdFd c doc pm c' ctv) c (.ref left)), (left, .list (chs (rest.drop 1))), (tb, .tab1 c' pos rdQ)]) := by
  refine (CallC_clo (n := n + 2) (i := 0) (j := 2) (p := Str.ofString "size") (body := fdB rdSt) rfl rfl rm lim rfl rfl rfl (fun x => by kernel_rfl) (by kernel_rfl) (no_cell (by kernel_rfl)) fun L => ?_).call
  have rm' := rm.deeper (callEnv (rdFd c doc pm c' ctv) L f)
  generalize A.deeper (callEnv (rdFd c doc pm c' ctv) L f) = A' at rm' ⊢
  refine Exs_cons ?_
  refine Ex_assign ?_
  refine Ev_method ?_
  refine Ev_str ?_
  refine ⟨_, GM_str F.slot_str_join F.type_str_join, .inl ⟨_, rfl⟩, ?_⟩
  refine Evs_cons ?_
  refine Ev_upto ?_
  refine Ev_free (i := 0) rfl ?_
  repeat walk_at "ev"
  refine OpU.swap (O_upto_list (i := 2) rfl (by omega) (by simp [chs, sV]; omega) fun b => ⟨_, _, rfl, ?_⟩)
  repeat walk_at "ev"
  refine ⟨.inl ⟨_, rfl⟩, Call_join (i := 1) (ls := (rest.take 1).map fun c => [c]) ?_ ?_ ?_⟩
  · simp [chs, sV]
  · rw [flat1]; simp; omega
  rw [flat1]
  repeat walk_at "ev"
  refine Ex_del_upto ?_
  refine Ev_free (i := 1) rfl ?_
  repeat walk_at "ev"
  refine ⟨left, 2, _, 1, rfl, rfl, rfl, by omega, by simp [chs, sV]; omega, ?_⟩
  repeat walk_at "ev"
  refine ⟨_, List.sublist_cons_self _ _, rfl, ?_⟩
  simp [chs, sV]
end
section
open PySem PySem.Spec PySem.Calls PyProof.Rows PySem.P
section
variable {T : TI} {A : Around}
theorem Call.framed {C C₀ Fr : Cs} {f : Value} {vs : List V} {K₀ K} (w : Call T A C f vs K₀) (p : C₀.Perm (C ++ Fr)) (hk : ∀ v C', K₀ v C' → ∃ C'', (C' ++ Fr).Perm C'' ∧ K v C'') : Call T A C₀ f vs K := ⟨fun s xs k r =>
  wpAny_mono (w.run s xs (k.perm p).left r) (fun x s' q => by
    obtain ⟨v, C', hK, r, k', g'⟩ := q
    obtain ⟨k₃, g₃⟩ := (k.perm p).frame k' g'
    obtain ⟨C'', p'', hK''⟩ := hk v C' hK
    exact ⟨v, _, hK'', r, k₃.perm p'', (g₃.permL p.symm).permR p''⟩) fun _ _ e => e⟩
theorem CallC.framed {C C₀ Fr : Cs} {f : Value} {vs : List V} {K₀ K} (w : CallC T A C f vs K₀) (p : C₀.Perm (C ++ Fr)) (hk : ∀ v C', K₀ v C' → ∃ C'', (C' ++ Fr).Perm C'' ∧ K v C'') : CallC T A C₀ f vs K := ⟨fun s xs k r =>
  codeAny_mono (w.run s xs (k.perm p).left r) (fun r s' ⟨x, e, q⟩ => by
    obtain ⟨v, C', hK, r, k', g'⟩ := q
    obtain ⟨k₃, g₃⟩ := (k.perm p).frame k' g'
    obtain ⟨C'', p'', hK''⟩ := hk v C' hK
    exact ⟨x, e, v, _, hK'', r, k₃.perm p'', (g₃.permL p.symm).permR p''⟩)⟩
end
noncomputable def clB : Stmt → List Stmt
  | .ClassDef _ _ _ body _ _ _ _ _ _ _ => body
  | _ => []
noncomputable abbrev mth (i : Nat) : Stmt := (clB (stAt Pr 8)).getD i (.Pass ⟨0, 0, 0, 0⟩)
noncomputable abbrev sn (x : String) : Str := Str.ofString x
noncomputable def MethAt (T : TI) (mN : Str → Option Value) (x q : String) (i : Nat) : Prop :=
  ∃ a o pm cd, mN (sn x) = some (.ref a) ∧ T.h₁.get? a = some o ∧ o.cls = .type "function" ∧ o.data = .func (fdOf (sn q) pm cd (mth i)) ∧ DefAt T a (fdOf (sn q) pm cd (mth i)) (fdB (mth i))
structure Tc (T : TI) (Cl N : Addr) (mN : Str → Option Value) : Prop where
  cls : Cls T Cl N mN
  has : T.h₁.get? Cl ≠ none
  lineno : mN (sn "lineno") = none
  instream : mN (sn "instream") = none
  whitespace : mN (sn "whitespace") = none
  pushback : mN (sn "pushback") = none
  read : mN (sn "read") = none
  init : MethAt T mN "__init__" "_netrclex.__init__" 0
  readc : MethAt T mN "_read_char" "_netrclex._read_char" 1
  token : MethAt T mN "get_token" "_netrclex.get_token" 2
  lim : Lim T
theorem o_lineno : typeLookup (.type "object") (sn "lineno") = pure none := by rw [typeLookup_type, builtinLookup_eq_fast]; kernel_rfl
theorem o_instream : typeLookup (.type "object") (sn "instream") = pure none := by rw [typeLookup_type, builtinLookup_eq_fast]; kernel_rfl
theorem o_whitespace : typeLookup (.type "object") (sn "whitespace") = pure none := by rw [typeLookup_type, builtinLookup_eq_fast]; kernel_rfl
theorem o_pushback : typeLookup (.type "object") (sn "pushback") = pure none := by rw [typeLookup_type, builtinLookup_eq_fast]; kernel_rfl
theorem o_read : typeLookup (.type "object") (sn "read") = pure none := by rw [typeLookup_type, builtinLookup_eq_fast]; kernel_rfl
theorem o_readc : typeLookup (.type "object") (sn "_read_char") = pure none := by rw [typeLookup_type, builtinLookup_eq_fast]; kernel_rfl
theorem o_token : typeLookup (.type "object") (sn "get_token") = pure none := by rw [typeLookup_type, builtinLookup_eq_fast]; kernel_rfl
variable {T : TI} {A : Around} {Cl N : Addr} {mN : Str → Option Value}
/-- the blanks -/
noncomputable def blk : List Nat := [10, 9, 13, 32]
/-- the names of a lexer -/
noncomputable abbrev lexA (n : Int) (t : V) (pb : Addr) : Lo := [(sn "lineno", .int n), (sn "instream", t), (sn "whitespace", .str (S blk)), (sn "pushback", .ref pb)]
noncomputable abbrev tapA (pb f : Addr) : Lo := [(sn "lineno", .int 1), (sn "instream", .none), (sn "whitespace", .str (S blk)), (sn "pushback", .ref pb), (sn "read", .ref f)]
/-- a lexer that stands at a text's rest -/
structure MA where
  x : Addr
  d : Addr
  pb : Addr
  t : Addr
  d2 : Addr
  pb2 : Addr
  f : Addr
  c : Addr
  left : Addr
  doc : Value
  pm : Value
  ctv : Value
noncomputable abbrev rd (Cl : Addr) (c' : Addr) (m : MA) (n : Int) (rest : List Nat) : Cs :=
  [(m.x, .inst Cl m.d (lexA n (.ref m.t) m.pb)), (m.t, .inst Cl m.d2 (tapA m.pb2 m.f)), (m.f, .clo (rdFd m.c m.doc m.pm c' m.ctv) m.c (.ref m.left)), (m.left, .list (chs rest))]
noncomputable def up (n : Int) (rest : List Nat) : Int := if rest.take 1 = [10] then n + 1 else n
theorem readc_call (tc : Tc T Cl N mN) {k : Nat} {c' tb : Addr} {pos : Pos} {m : MA} {n : Int} {rest : List Nat} {a : Addr} {pm cd : Value} (d : DefAt T a (fdOf (sn "_netrclex._read_char") pm cd (mth 1)) (fdB (mth 1))) (rm : Rm A (k + 4)) (hl : rest.length ≤ 1000000) :
    CallC T A (rd Cl c' m n rest ++ [(tb, .tab1 c' pos rdQ)]) (.ref a) [.ref m.x] (fun v C' => v = .str (S (rest.take 1)) ∧ C' = rd Cl c' m (up n rest) (rest.drop 1) ++ [(tb, .tab1 c' pos rdQ)]) := by
  refine CallC_def (n := k + 3) (names := [sn "self"]) (ℓ₀ := [(sn "self", .ref m.x)]) d rm (fun xs hxs => ?_) (by simp) rfl (no_cell (by kernel_rfl)) (all_local (by kernel_rfl)) (fun L => ?_)
  · obtain ⟨x, rfl⟩ := len1 hxs
    kernel_rfl
  have rm' := rm.deeper (callEnv (fdOf (sn "_netrclex._read_char") pm cd (mth 1)) L a)
  generalize A.deeper (callEnv (fdOf (sn "_netrclex._read_char") pm cd (mth 1)) L a) = A' at rm' ⊢
  refine Exs_cons ?_
  refine Ex_assign ?_
  refine Ev_attrcall ?_
  refine Ev_attr tc.cls tc.instream o_instream ?_
  repeat walk_at "ev"
  refine ⟨m.x, 0, m.d, _, .ref m.t, rfl, rfl, by walk_at "lk", (fun id e => nomatch e), ?_⟩
  refine ⟨_, GA_inst (i := 2) tc.cls rfl tc.read o_read (by walk_at "lk"), .inr (.inr ⟨_, rfl⟩), ?_⟩
  repeat walk_at "ev"
  refine ⟨clo_callee (i := 3) rfl, Call.framed (Fr := [lc _ _, (m.x, _), (m.t, _)]) (read_call tc.lim (n := k) rm' hl) (List.perm_append_comm (l₁ := [_, _, _])) ?_⟩
  rintro _ _ ⟨rfl, rfl⟩
  refine ⟨_, (List.perm_append_comm (l₂ := [_, _, _])), _, rfl, ?_⟩
  repeat walk_at "ev"
  refine O_eqS (b := [10]) ?_
  repeat walk_at "ev"
  refine sb (fun hb => ?_) (fun hb => ?_)
  · have hb' : rest.take 1 = [10] := by simpa using hb
    refine Exs_cons ?_
    refine Ex_augattr tc.cls tc.lineno o_lineno tc.has ?_
    repeat walk_at "ev"
    refine ⟨m.x, 0, m.d, _, .int n, rfl, rfl, by walk_at "lk", (fun id e => nomatch e), by simp, ?_⟩
    refine Ev_int ?_
    refine ⟨rfl, O_iadd ⟨rfl, ?_⟩⟩
    repeat walk_at "ev"
    exact ⟨_, List.Sublist.refl _, rfl, by simp only [up, hb', if_true]; rfl⟩
  · have hb' : ¬ rest.take 1 = [10] := by simpa using hb
    repeat walk_at "ev"
    exact ⟨_, List.Sublist.refl _, rfl, by simp only [up, hb', if_false]; rfl⟩
end
section
open PySem PySem.Spec PySem.Calls PyProof.Rows PySem.P
theorem slot_cit_iter : Slot "callable_iterator" "__iter__" "callable_iterator.__iter__" :=
  .of (owner := "callable_iterator") (n := "__iter__") (by rw [typeLookup_type, builtinLookup_eq_fast]; kernel_rfl) (by decide +kernel) (by decide +kernel) (by decide +kernel)
    (by first | exact .inl (by decide +kernel) | exact .inr (by decide +kernel)) (by rw [isSubtype_type]; kernel_rfl)
theorem args_cit_iter_1 (a : Value) : argsOk "callable_iterator.__iter__" ⟨[a], []⟩ := by
  unfold argsOk; rw [signature?_of (id := "callable_iterator.__iter__") (n := ['_', '_', 'r', 'e', 't', 'i', '_', '_']) (o := ['r', 'o', 't', 'a', 'r', 'e', 't', 'i', '_', 'e', 'l', 'b', 'a', 'l', 'l', 'a', 'c']) (by kernel_rfl) owner_cit]; kernel_rfl
theorem entry_cit_iter : entryFor table "callable_iterator.__iter__" = some Builtin.«dict_keyiterator.__iter__» :=
  entryFor_alias (id' := "dict_keyiterator.__iter__") (by rw [← table_eq_fast, table_eq_tree]; kernel_rfl) (by first | rfl | decide +kernel | (unfold String.splitOn; simp +decide [String.splitOnAux])) (by decide +kernel) (by rw [← table_eq_fast, table_eq_tree]; kernel_rfl)
theorem Itr_cit {T : TI} {A : Around} {C : Cs} {j : Nat} {a m f self : Addr} {dead : Bool} {K} (hj : C[j]? = some (a, .cit m f self dead)) (h : K a C) : Itr T A C (.ref a) K := by
  refine ⟨fun s x k r => ?_⟩
  cases r
  obtain ⟨⟨t, hc⟩, hm⟩ := cell_at k hj
  have hT : s.TypeIs (.ref a) "callable_iterator" := ⟨_, hc, by cases dead <;> rfl⟩
  refine wpAny_pyIter_slot hT slot_cit_iter (wpAny_call_entry slot_cit_iter hT entry_cit_iter ?_ (args_cit_iter_1 _))
  show wpAny _ _ (ret (.ref a)) _ _ s
  exact wpAny_pure ⟨_, rfl, "callable_iterator", _, hT, slot_cit_next.lookup, _, _, h, rfl, k, Go.refl _ _⟩
noncomputable def nl (c : Nat) : Int := if c = 10 then 1 else 0
noncomputable def lexQ (tok : List Nat) (n : Int) : List Nat → List Nat × Int × List Nat
  | [] => (tok, n, [])
  | c :: r => if c = 34 then (tok, n, r) else if c = 92 then (match r with | [] => (tok, n, []) | e :: r' => lexQ (tok ++ [e]) (n + nl e) r') else lexQ (tok ++ [c]) (n + nl c) r
noncomputable def lexW (tok : List Nat) (n : Int) : List Nat → List Nat × Int × List Nat
  | [] => (tok, n, [])
  | c :: r => if c ∈ blk then (tok, n + nl c, r) else if c = 92 then (match r with | [] => (tok, n, []) | e :: r' => lexW (tok ++ [e]) (n + nl e) r') else lexW (tok ++ [c]) (n + nl c) r
noncomputable def lexT (n : Int) : List Nat → List Nat × Int × List Nat
  | [] => ([], n, [])
  | c :: r => if c ∈ blk then lexT (n + nl c) r else if c = 34 then lexQ [] n r else if c = 92 then (match r with | [] => ([], n, []) | e :: r' => lexW [e] (n + nl e) r') else lexW [c] (n + nl c) r
theorem up_nil (n : Int) : up n [] = n := by simp [up]
theorem up_cons (n : Int) (c : Nat) (r : List Nat) : up n (c :: r) = n + nl c := by
  unfold up nl
  by_cases h : c = 10 <;> simp [h]
variable {T : TI} {A : Around} {Cl N : Addr} {mN : Str → Option Value}
noncomputable abbrev HL (Cl c' : Addr) (m : MA) (tb : Addr) (pos : Pos) (fit mm fa : Addr) (dead : Bool) (n : Int) (rest : List Nat) : Cs :=
  (fit, .cit mm fa m.x dead) :: (rd Cl c' m n rest ++ [(tb, .tab1 c' pos rdQ)] ++ [(m.pb, .list [])])
theorem nt_read (tc : Tc T Cl N mN) {k : Nat} {c' tb fit mm fa : Addr} {pos : Pos} {m : MA} {n : Int} {rest : List Nat} {o : Obj} {pm cd : Value} {env : Env} {ℓ : Lo} {target : Expr} {K : Option V → Cs → Prop}
    (d : DefAt T fa (fdOf (sn "_netrclex._read_char") pm cd (mth 1)) (fdB (mth 1))) (hf : T.h₁.get? fa = some o) (hfd : o.data = .func (fdOf (sn "_netrclex._read_char") pm cd (mth 1))) (rm : Rm A (k + 6)) (hl : rest.length ≤ 1000000)
    (h0 : rest = [] → K .none (HL Cl c' m tb pos fit mm fa true n [])) (h1 : ∀ c r, rest = c :: r → K (some (.str (S [c]))) (HL Cl c' m tb pos fit mm fa false (n + nl c) r))
    (ht : ∀ y, letOwnedTupleGo target (.ref fit) y = pure () := by intro _; rfl) :
    Nt T A (lc env ℓ :: HL Cl c' m tb pos fit mm fa false n rest) target (.ref fit) (inH env ℓ K) := by
  refine Nt_cit (n := k + 5) (i := 1) rm rfl hf d.ne hfd ?_ ht
  refine CallC.framed (C := rd Cl c' m n rest ++ [(tb, .tab1 c' pos rdQ)]) (Fr := [lc env ℓ, (fit, .cit mm fa m.x false)] ++ [(m.pb, .list [])]) (readc_call tc (k := k + 1) d rm.in1 hl) (show (([lc env ℓ, (fit, .cit mm fa m.x false)] : Cs) ++ ((rd Cl c' m n rest ++ ([(tb, .tab1 c' pos rdQ)] : Cs)) ++ ([(m.pb, .list [])] : Cs))).Perm _ from List.perm_append_comm_assoc _ _ _) ?_
  rintro _ _ ⟨rfl, rfl⟩
  refine ⟨lc env ℓ :: HL Cl c' m tb pos fit mm fa false (up n rest) (rest.drop 1), (show ((rd Cl c' m (up n rest) (rest.drop 1) ++ ([(tb, .tab1 c' pos rdQ)] : Cs)) ++ (([lc env ℓ, (fit, .cit mm fa m.x false)] : Cs) ++ ([(m.pb, .list [])] : Cs))).Perm (([lc env ℓ, (fit, .cit mm fa m.x false)] : Cs) ++ _) from List.perm_append_comm_assoc _ _ _), rfl, _, rfl, ?_⟩
  cases rest with
  | nil =>
    rw [if_pos (by rfl)]
    refine ⟨_, rfl, ?_⟩
    have := h0 rfl
    rw [up_nil]
    exact this
  | cons c r =>
    rw [if_neg (by
      intro e
      have := congrArg (fun z : Str => z.cps.toList) e
      simp [S, Str.empty] at this)]
    refine ⟨_, rfl, ?_⟩
    rw [up_cons]
    exact h1 c r rfl
theorem lk_no {x y : Str} {v : V} {ℓ : Lo} (hne : (x == y) = false) (h : List.lookup x ℓ = none) : List.lookup x ((y, v) :: ℓ) = none := by rw [List.lookup_cons, hne]; exact h
theorem lexA_no {n : Int} {t : V} {pb : Addr} : List.lookup (sn "_read_char") (lexA n t pb) = none :=
  lk_no (by decide +kernel) (lk_no (by decide +kernel) (lk_no (by decide +kernel) (lk_no (by decide +kernel) rfl)))
theorem lexA_no2 {n : Int} {t : V} {pb : Addr} : List.lookup (sn "get_token") (lexA n t pb) = none :=
  lk_no (by decide +kernel) (lk_no (by decide +kernel) (lk_no (by decide +kernel) (lk_no (by decide +kernel) rfl)))
/-- self._read_char() -/
theorem ev_read (tc : Tc T Cl N mN) {k : Nat} {c' tb fit mm fa : Addr} {pos p1 p2 p3 : Pos} {m : MA} {n : Int} {rest : List Nat} {dead : Bool} {o : Obj} {pm cd pmT cdT : Value} {L a : Addr} {ℓ : Lo} {K : V → Cs → Prop} {pl : Sem Bool}
    (hm : mN (sn "_read_char") = some (.ref fa)) (d : DefAt T fa (fdOf (sn "_netrclex._read_char") pm cd (mth 1)) (fdB (mth 1))) (hf : T.h₁.get? fa = some o) (hoc : o.cls = .type "function") (rm : Rm A (k + 4)) (hl : rest.length ≤ 1000000) (hs : ℓ.lookup (sn "self") = some (.ref m.x))
    (h : K (.str (S (rest.take 1))) (HL Cl c' m tb pos fit mm fa dead (up n rest) (rest.drop 1)))
    (he : eval (.Call (.Attribute (.Name (sn "self") p1) (sn "_read_char") p2) [] [] p3) (callEnv (fdOf (sn "_netrclex.get_token") pmT cdT (mth 2)) L a) = (do
      let ov ← eval (.Name (sn "self") p1) (callEnv (fdOf (sn "_netrclex.get_token") pmT cdT (mth 2)) L a)
      standAt p2.atName
      let (f, first) ← holding [ov] (getMethod ov (sn "_read_char") pl)
      callWith p3 f first (backTo p3 (starEach [] (callEnv (fdOf (sn "_netrclex.get_token") pmT cdT (mth 2)) L a))) (backToKw p3 (keywordEach [] (callEnv (fdOf (sn "_netrclex.get_token") pmT cdT (mth 2)) L a)))) := by rfl) : Ev T A (callEnv (fdOf (sn "_netrclex.get_token") pmT cdT (mth 2)) L a) ℓ (HL Cl c' m tb pos fit mm fa dead n rest) (.Call (.Attribute (.Name (sn "self") p1) (sn "_read_char") p2) [] [] p3) K := by
  refine Ev_method (pl := pl) ?_ he
  refine Ev_name hs ?_
  refine ⟨_, GM_inst (i := 2) (y := none) tc.cls rfl hm hf d.ne hoc o_readc lexA_no, .inr (.inr ⟨_, rfl⟩), ?_⟩
  refine Evs_nil ?_
  refine ⟨d.callee _, ?_⟩
  refine Call.framed (C := rd Cl c' m n rest ++ [(tb, .tab1 c' pos rdQ)]) (Fr := [lc _ ℓ, (fit, .cit mm fa m.x dead)] ++ [(m.pb, .list [])]) (readc_call tc (k := k) d rm hl).call (show (([lc _ ℓ, (fit, .cit mm fa m.x dead)] : Cs) ++ ((rd Cl c' m n rest ++ ([(tb, .tab1 c' pos rdQ)] : Cs)) ++ ([(m.pb, .list [])] : Cs))).Perm _ from List.perm_append_comm_assoc _ _ _) ?_
  rintro _ _ ⟨rfl, rfl⟩
  exact ⟨lc _ ℓ :: HL Cl c' m tb pos fit mm fa dead (up n rest) (rest.drop 1), (show ((rd Cl c' m (up n rest) (rest.drop 1) ++ ([(tb, .tab1 c' pos rdQ)] : Cs)) ++ (([lc _ ℓ, (fit, .cit mm fa m.x dead)] : Cs) ++ ([(m.pb, .list [])] : Cs))).Perm (([lc _ ℓ, (fit, .cit mm fa m.x dead)] : Cs) ++ _) from List.perm_append_comm_assoc _ _ _), _, rfl, h⟩
theorem lexT_cons (n : Int) (c : Nat) (r : List Nat) : lexT n (c :: r) = if c ∈ blk then lexT (n + nl c) r else if c = 34 then lexQ [] n r else if c = 92 then (match r with | [] => ([], n, []) | e :: r' => lexW [e] (n + nl e) r') else lexW [c] (n + nl c) r := by
  cases r <;> rfl
theorem lexQ_cons (tok : List Nat) (n : Int) (c : Nat) (r : List Nat) : lexQ tok n (c :: r) = if c = 34 then (tok, n, r) else if c = 92 then (match r with | [] => (tok, n, []) | e :: r' => lexQ (tok ++ [e]) (n + nl e) r') else lexQ (tok ++ [c]) (n + nl c) r := by
  cases r <;> rfl
theorem lexW_cons (tok : List Nat) (n : Int) (c : Nat) (r : List Nat) : lexW tok n (c :: r) = if c ∈ blk then (tok, n + nl c, r) else if c = 92 then (match r with | [] => (tok, n, []) | e :: r' => lexW (tok ++ [e]) (n + nl e) r') else lexW (tok ++ [c]) (n + nl c) r := by
  cases r <;> rfl
theorem lexQ_nil (tok : List Nat) (n : Int) : lexQ tok n [] = (tok, n, []) := by rw [lexQ]
theorem lexW_nil (tok : List Nat) (n : Int) : lexW tok n [] = (tok, n, []) := by rw [lexW]
theorem token_call (tq : Tq T) (tc : Tc T Cl N mN) {k : Nat} {c' tb : Addr} {pos : Pos} {m : MA} {n : Int} {rest : List Nat} {a : Addr} {pm cd : Value} (d : DefAt T a (fdOf (sn "_netrclex.get_token") pm cd (mth 2)) (fdB (mth 2))) (rm : Rm A (k + 8)) (hl : rest.length ≤ 100000) :
    Call T A (rd Cl c' m n rest ++ [(tb, .tab1 c' pos rdQ)] ++ [(m.pb, .list [])]) (.ref a) [.ref m.x] (fun v C' => v = .str (S (lexT n rest).1) ∧ C' = rd Cl c' m (lexT n rest).2.1 (lexT n rest).2.2 ++ [(tb, .tab1 c' pos rdQ)] ++ [(m.pb, .list [])]) := by
  obtain ⟨fa, o, pmR, cdR, hm, hf, hoc, hfd, dR⟩ := tc.readc
  refine Call_def (n := k + 7) (names := [sn "self"]) (ℓ₀ := [(sn "self", .ref m.x)]) d rm (fun xs hxs => ?_) (by simp) rfl (no_cell (by kernel_rfl)) (all_local (by kernel_rfl)) (fun L => ?_)
  · obtain ⟨x, rfl⟩ := len1 hxs
    kernel_rfl
  have rm' := rm.deeper (callEnv (fdOf (sn "_netrclex.get_token") pm cd (mth 2)) L a)
  generalize A.deeper (callEnv (fdOf (sn "_netrclex.get_token") pm cd (mth 2)) L a) = A' at rm' ⊢
  refine Exs_cons ?_
  refine Ex_if ?_
  refine Tr_value ?_
  refine Ev_attr tc.cls tc.pushback o_pushback ?_
  repeat walk_at "ev"
  refine ⟨m.x, 0, m.d, _, .ref m.pb, rfl, rfl, by walk_at "lk", (fun id e => nomatch e), ?_⟩
  refine T_list (i := 6) rfl (by simp) ?_
  refine ⟨_, rfl, ?_⟩
  refine sbF ?_
  repeat walk_at "ev"
  refine Ev_call ?_
  refine Ev_builtin (v := .bi "iter") tq.iter tq.ng tq.nb (fun _ => rfl) ?_
  refine ⟨_, rfl, ?_⟩
  refine Evs_cons ?_
  refine Ev_bound (y := none) tc.cls hm hf dR.ne hoc o_readc (by decide +kernel) ?_
  repeat walk_at "ev"
  refine ⟨m.x, 0, m.d, _, rfl, rfl, lexA_no, fun mm => ?_⟩
  repeat walk_at "ev"
  refine ⟨.inl ⟨_, rfl⟩, Call_iter2 (i := 1) (o := o) (fd := fdOf (sn "_netrclex._read_char") pmR cdR (mth 1)) rfl fun fit => ⟨_, rfl, ?_⟩⟩
  repeat walk_at "ev"
  refine Ex_for ?_
  repeat walk_at "ev"
  refine Itr_cit (j := 1) rfl ⟨_, rfl, ?_⟩
  generalize hRR : lexT n rest = R
  refine Fo_ind (ι := Bool × List Nat × Int × List Nat) (fun i ℓ H => (∃ ℓ', ℓ = (sn "self", V.ref m.x) :: (sn "token", V.str (S i.2.1)) :: (sn "fiter", V.ref fit) :: ℓ' ∧ (ℓ' = [] ∨ ∃ v, ℓ' = [(sn "ch", v)])) ∧
    H = HL Cl c' m tb pos fit mm fa i.1 i.2.2.1 i.2.2.2 ∧ i.2.2.2.length ≤ 100000 ∧ (if i.1 then i.2.2.2 = [] ∧ (i.2.1, i.2.2.1, []) = R else i.2.1 = [] ∧ lexT i.2.2.1 i.2.2.2 = R)) (fun i => if i.1 then 0 else i.2.2.2.length + 1) ?_ (false, [], n, rest) ⟨⟨[], rfl, .inl rfl⟩, rfl, hl, rfl, hRR⟩
  rintro ⟨dead, tok, n, rest⟩ ℓ H ⟨⟨ℓ', rfl, hℓ⟩, rfl, hl, hR⟩ ih
  clear hRR
  dsimp only at hl hR ih ⊢
  refine Fo_step ?_
  cases dead with
  | true =>
    obtain ⟨rfl, rfl⟩ := (show rest = [] ∧ (tok, n, []) = R from hR)
    refine Nt_cit_dead (i := 1) rm' rfl ⟨_, rfl, ?_⟩
    refine Exs_nil ?_
    repeat walk_at "ev"
    exact ⟨_, List.sublist_cons_self _ _, rfl, rfl⟩
  | false =>
    have hR2 := (show tok = [] ∧ lexT n rest = R from hR)
    clear hR
    obtain ⟨rfl, hR⟩ := hR2
    refine nt_read tc (k := k + 1) dR hf hfd rm' (by omega) (fun e => ?_) (fun c r e => ?_)
    · subst e
      rw [lexT] at hR
      subst hR
      refine Exs_nil ?_
      repeat walk_at "ev"
      exact ⟨_, List.sublist_cons_self _ _, rfl, rfl⟩
    · subst e
      have hlr : r.length ≤ 100000 := by simp at hl; omega
      refine Asn_name ?_
      have hu : Upd (sn "ch") (.str (S [c])) ((sn "self", V.ref m.x) :: (sn "token", V.str (S [])) :: (sn "fiter", V.ref fit) :: ℓ') [(sn "self", V.ref m.x), (sn "token", V.str (S [])), (sn "fiter", V.ref fit), (sn "ch", .str (S [c]))] := by
        rcases hℓ with rfl | ⟨v, rfl⟩
        · walk_at "up"
        · walk_at "up"
      refine ⟨_, hu, ?_⟩
      refine Exs_cons ?_
      refine Ex_if ?_
      refine Tr_compare ?_
      repeat walk_at "ev"
      refine Ev_attr tc.cls tc.whitespace o_whitespace ?_
      repeat walk_at "ev"
      refine ⟨m.x, 1, m.d, _, .str (S blk), rfl, rfl, by walk_at "lk", (fun id e => nomatch e), ?_⟩
      refine O_inS ?_
      refine ⟨_, rfl, _, rfl, ?_⟩
      rw [lexT_cons] at hR
      refine sb (fun hb => ?_) (fun hb => ?_)
      · have hb' : c ∈ blk := by simpa using hb
        rw [if_pos hb'] at hR
        refine Exs_cons ?_
        refine Ex_continue ?_
        refine ih (false, [], n + nl c, r) _ _ (by simp) ⟨⟨_, rfl, .inr ⟨_, rfl⟩⟩, rfl, hlr, rfl, hR⟩
      · have hb' : ¬ c ∈ blk := by simpa using hb
        rw [if_neg hb'] at hR
        refine Exs_nil ?_
        refine Exs_cons ?_
        refine Ex_if ?_
        refine Tr_compare ?_
        repeat walk_at "ev"
        refine O_eqS (b := [34]) ?_
        refine ⟨_, rfl, _, rfl, ?_⟩
        refine sb (fun hq => ?_) (fun hq => ?_)
        · have hq' : c = 34 := by simpa using hq
          rw [if_pos hq'] at hR
          subst hq'
          rw [show n = n + nl 34 by simp [nl]] at hR
          refine Exs_cons ?_
          refine Ex_for ?_
          repeat walk_at "ev"
          refine Itr_cit (j := 1) rfl ⟨_, rfl, ?_⟩
          refine Fo_ind (ι := List Nat × Int × List Nat) (fun i ℓ H => (∃ v, ℓ = [(sn "self", V.ref m.x), (sn "token", V.str (S i.1)), (sn "fiter", V.ref fit), (sn "ch", v)]) ∧
            H = HL Cl c' m tb pos fit mm fa false i.2.1 i.2.2 ∧ i.2.2.length ≤ r.length ∧ i.1.length + i.2.2.length ≤ 200000 ∧ lexQ i.1 i.2.1 i.2.2 = R) (fun i => i.2.2.length) ?_ ([], n + nl 34, r) ⟨⟨_, rfl⟩, rfl, Nat.le_refl _, by simp; omega, hR⟩
          rintro ⟨tk, n₂, r₂⟩ ℓ H ⟨⟨v, rfl⟩, rfl, hl₂, hl₃, hR₂⟩ ih₂
          dsimp only at hl₂ hl₃ hR₂ ih₂ ⊢
          refine Fo_step ?_
          refine nt_read tc (k := k + 1) dR hf hfd rm' (by omega) (fun e => ?_) (fun c₂ r₃ e => ?_)
          · subst e
            rw [lexQ_nil] at hR₂
            refine Exs_nil ?_
            refine Exs_nil ?_
            refine Exs_nil ?_
            refine ih (true, tk, n₂, []) _ _ (by simp) ⟨⟨_, rfl, .inr ⟨_, rfl⟩⟩, rfl, by simp, rfl, hR₂⟩
          · subst e
            have hl₄ : r₃.length + 1 ≤ r.length := by simpa using hl₂
            have hl₅ : tk.length + (r₃.length + 1) ≤ 200000 := by simpa using hl₃
            refine Asn_name ?_
            apply exu
            case u => walk_at "up"
            refine Exs_cons ?_
            refine Ex_if ?_
            refine Tr_compare ?_
            repeat walk_at "ev"
            refine O_eqS (b := [34]) ?_
            refine ⟨_, rfl, _, rfl, ?_⟩
            rw [lexQ_cons] at hR₂
            refine sb (fun hc => ?_) (fun hc => ?_)
            · have hc' : c₂ = 34 := by simpa using hc
              rw [if_pos hc'] at hR₂
              subst hR₂
              refine Exs_cons ?_
              refine Ex_return ?_
              repeat walk_at "ev"
              subst hc'
              exact ⟨_, List.sublist_cons_self _ _, rfl, by simp [nl]⟩
            · have hc' : ¬ c₂ = 34 := by simpa using hc
              rw [if_neg hc'] at hR₂
              refine Exs_cons ?_
              refine Ex_if ?_
              refine Tr_compare ?_
              repeat walk_at "ev"
              refine O_eqS (b := [92]) ?_
              refine ⟨_, rfl, _, rfl, ?_⟩
              refine sb (fun he => ?_) (fun he => ?_)
              · have he' : c₂ = 92 := by simpa using he
                rw [if_pos he'] at hR₂
                subst he'
                refine Exs_cons ?_
                refine Ex_assign ?_
                refine ev_read tc (k := k + 3) hm dR hf hoc rm' (by omega) (by walk_at "lk") ?_
                repeat walk_at "ev"
                refine Ex_aug (v := .str (S tk)) (by walk_at "lk") ?_
                repeat walk_at "ev"
                refine O_iadds (by have : (r₃.take 1).length ≤ 1 := (by simp; omega); omega) ?_
                repeat walk_at "ev"
                cases r₃ with
                | nil =>
                  refine ih₂ (tk ++ [], up (n₂ + nl 92) [], []) _ _ (by simp) ⟨⟨_, rfl⟩, rfl, by simp, by simp; omega, ?_⟩
                  dsimp only
                  rw [lexQ_nil, up_nil, List.append_nil]
                  simpa [nl] using hR₂
                | cons e₁ r₄ =>
                  refine ih₂ (tk ++ [e₁], up (n₂ + nl 92) (e₁ :: r₄), r₄) _ _ (by simp; omega) ⟨⟨_, rfl⟩, rfl, by simp at hl₄ ⊢; omega, by simp at hl₅ ⊢; omega, ?_⟩
                  dsimp only
                  rw [up_cons]
                  simpa [nl] using hR₂
              · have he' : ¬ c₂ = 92 := by simpa using he
                rw [if_neg he'] at hR₂
                refine Exs_nil ?_
                refine Exs_nil ?_
                refine Exs_cons ?_
                refine Ex_aug (v := .str (S tk)) (by walk_at "lk") ?_
                repeat walk_at "ev"
                refine O_iadds (by simp; omega) ?_
                repeat walk_at "ev"
                exact ih₂ (tk ++ [c₂], _, r₃) _ _ (by simp) ⟨⟨_, rfl⟩, rfl, by show r₃.length ≤ r.length; omega, by simp; omega, hR₂⟩
        · have hq' : ¬ c = 34 := by simpa using hq
          rw [if_neg hq'] at hR
          refine Exs_cons ?_
          refine Ex_if ?_
          refine Tr_compare ?_
          repeat walk_at "ev"
          refine O_eqS (b := [92]) ?_
          refine ⟨_, rfl, _, rfl, ?_⟩
          refine sb (fun hw => ?_) (fun hw => ?_)
          · have hw' : c = 92 := by simpa using hw
            rw [if_pos hw'] at hR
            subst hw'
            refine Exs_cons ?_
            refine Ex_assign ?_
            refine ev_read tc (k := k + 3) hm dR hf hoc rm' (by omega) (by walk_at "lk") ?_
            repeat walk_at "ev"
            refine Ex_aug (v := .str (S [])) (by walk_at "lk") ?_
            repeat walk_at "ev"
            refine O_iadds (by have : (r.take 1).length ≤ 1 := (by simp; omega); simp; omega) ?_
            repeat walk_at "ev"
            refine Ex_for ?_
            repeat walk_at "ev"
            refine Itr_cit (j := 1) rfl ⟨_, rfl, ?_⟩
            replace hR : lexW ([] ++ r.take 1) (up (n + nl 92) r) (r.drop 1) = R := by
              cases r with
              | nil => rw [up_nil]; simpa [lexW_nil, nl] using hR
              | cons e₀ r₀ => rw [up_cons]; simpa [nl] using hR
            refine Fo_ind (ι := List Nat × Int × List Nat) (fun i ℓ H => (∃ v, ℓ = [(sn "self", V.ref m.x), (sn "token", V.str (S i.1)), (sn "fiter", V.ref fit), (sn "ch", v)]) ∧
              H = HL Cl c' m tb pos fit mm fa false i.2.1 i.2.2 ∧ i.2.2.length ≤ r.length ∧ i.1.length + i.2.2.length ≤ 200000 ∧ lexW i.1 i.2.1 i.2.2 = R) (fun i => i.2.2.length) ?_ ([] ++ r.take 1, up (n + nl 92) r, r.drop 1) ⟨⟨_, rfl⟩, rfl, by simp, by simp; omega, hR⟩
            rintro ⟨tk, n₂, r₂⟩ ℓ H ⟨⟨v, rfl⟩, rfl, hl₂, hl₃, hR₂⟩ ih₂
            dsimp only at hl₂ hl₃ hR₂ ih₂ ⊢
            refine Fo_step ?_
            refine nt_read tc (k := k + 1) dR hf hfd rm' (by omega) (fun e => ?_) (fun c₂ r₃ e => ?_)
            · subst e
              rw [lexW_nil] at hR₂
              refine Exs_nil ?_
              refine Exs_nil ?_
              refine Exs_nil ?_
              refine ih (true, tk, n₂, []) _ _ (by simp) ⟨⟨_, rfl, .inr ⟨_, rfl⟩⟩, rfl, by simp, rfl, hR₂⟩
            · subst e
              have hl₄ : r₃.length + 1 ≤ r.length := by simpa using hl₂
              have hl₅ : tk.length + (r₃.length + 1) ≤ 200000 := by simpa using hl₃
              refine Asn_name ?_
              apply exu
              case u => walk_at "up"
              refine Exs_cons ?_
              refine Ex_if ?_
              refine Tr_compare ?_
              repeat walk_at "ev"
              refine Ev_attr tc.cls tc.whitespace o_whitespace ?_
              repeat walk_at "ev"
              refine ⟨m.x, 1, m.d, _, .str (S blk), rfl, rfl, by walk_at "lk", (fun id e => nomatch e), ?_⟩
              refine O_inS ?_
              refine ⟨_, rfl, _, rfl, ?_⟩
              rw [lexW_cons] at hR₂
              refine sb (fun hc => ?_) (fun hc => ?_)
              · have hc' : c₂ ∈ blk := by simpa using hc
                rw [if_pos hc'] at hR₂
                subst hR₂
                refine Exs_cons ?_
                refine Ex_return ?_
                repeat walk_at "ev"
                exact ⟨_, List.sublist_cons_self _ _, rfl, rfl⟩
              · have hc' : ¬ c₂ ∈ blk := by simpa using hc
                rw [if_neg hc'] at hR₂
                refine Exs_cons ?_
                refine Ex_if ?_
                refine Tr_compare ?_
                repeat walk_at "ev"
                refine O_eqS (b := [92]) ?_
                refine ⟨_, rfl, _, rfl, ?_⟩
                refine sb (fun he => ?_) (fun he => ?_)
                · have he' : c₂ = 92 := by simpa using he
                  rw [if_pos he'] at hR₂
                  subst he'
                  refine Exs_cons ?_
                  refine Ex_assign ?_
                  refine ev_read tc (k := k + 3) hm dR hf hoc rm' (by omega) (by walk_at "lk") ?_
                  repeat walk_at "ev"
                  refine Ex_aug (v := .str (S tk)) (by walk_at "lk") ?_
                  repeat walk_at "ev"
                  refine O_iadds (by have : (r₃.take 1).length ≤ 1 := (by simp; omega); omega) ?_
                  repeat walk_at "ev"
                  cases r₃ with
                  | nil =>
                    refine ih₂ (tk ++ [], up (n₂ + nl 92) [], []) _ _ (by simp) ⟨⟨_, rfl⟩, rfl, by simp, by simp; omega, ?_⟩
                    dsimp only
                    rw [lexW_nil, up_nil, List.append_nil]
                    simpa [nl] using hR₂
                  | cons e₁ r₄ =>
                    refine ih₂ (tk ++ [e₁], up (n₂ + nl 92) (e₁ :: r₄), r₄) _ _ (by simp; omega) ⟨⟨_, rfl⟩, rfl, by simp at hl₄ ⊢; omega, by simp at hl₅ ⊢; omega, ?_⟩
                    dsimp only
                    rw [up_cons]
                    simpa [nl] using hR₂
                · have he' : ¬ c₂ = 92 := by simpa using he
                  rw [if_neg he'] at hR₂
                  refine Exs_nil ?_
                  refine Exs_nil ?_
                  refine Exs_cons ?_
                  refine Ex_aug (v := .str (S tk)) (by walk_at "lk") ?_
                  repeat walk_at "ev"
                  refine O_iadds (by simp; omega) ?_
                  repeat walk_at "ev"
                  exact ih₂ (tk ++ [c₂], _, r₃) _ _ (by simp) ⟨⟨_, rfl⟩, rfl, by show r₃.length ≤ r.length; omega, by simp; omega, hR₂⟩
          · have hw' : ¬ c = 92 := by simpa using hw
            rw [if_neg hw'] at hR
            refine Exs_nil ?_
            refine Exs_cons ?_
            refine Ex_aug (v := .str (S [])) (by walk_at "lk") ?_
            repeat walk_at "ev"
            refine O_iadds (by simp) ?_
            repeat walk_at "ev"
            refine Ex_for ?_
            repeat walk_at "ev"
            refine Itr_cit (j := 1) rfl ⟨_, rfl, ?_⟩
            replace hR : lexW ([] ++ [c]) (n + nl c) r = R := hR
            refine Fo_ind (ι := List Nat × Int × List Nat) (fun i ℓ H => (∃ v, ℓ = [(sn "self", V.ref m.x), (sn "token", V.str (S i.1)), (sn "fiter", V.ref fit), (sn "ch", v)]) ∧
              H = HL Cl c' m tb pos fit mm fa false i.2.1 i.2.2 ∧ i.2.2.length ≤ r.length ∧ i.1.length + i.2.2.length ≤ 200000 ∧ lexW i.1 i.2.1 i.2.2 = R) (fun i => i.2.2.length) ?_ ([] ++ [c], n + nl c, r) ⟨⟨_, rfl⟩, rfl, Nat.le_refl _, by simp; omega, hR⟩
            rintro ⟨tk, n₂, r₂⟩ ℓ H ⟨⟨v, rfl⟩, rfl, hl₂, hl₃, hR₂⟩ ih₂
            dsimp only at hl₂ hl₃ hR₂ ih₂ ⊢
            refine Fo_step ?_
            refine nt_read tc (k := k + 1) dR hf hfd rm' (by omega) (fun e => ?_) (fun c₂ r₃ e => ?_)
            · subst e
              rw [lexW_nil] at hR₂
              refine Exs_nil ?_
              refine Exs_nil ?_
              refine Exs_nil ?_
              refine ih (true, tk, n₂, []) _ _ (by simp) ⟨⟨_, rfl, .inr ⟨_, rfl⟩⟩, rfl, by simp, rfl, hR₂⟩
            · subst e
              have hl₄ : r₃.length + 1 ≤ r.length := by simpa using hl₂
              have hl₅ : tk.length + (r₃.length + 1) ≤ 200000 := by simpa using hl₃
              refine Asn_name ?_
              apply exu
              case u => walk_at "up"
              refine Exs_cons ?_
              refine Ex_if ?_
              refine Tr_compare ?_
              repeat walk_at "ev"
              refine Ev_attr tc.cls tc.whitespace o_whitespace ?_
              repeat walk_at "ev"
              refine ⟨m.x, 1, m.d, _, .str (S blk), rfl, rfl, by walk_at "lk", (fun id e => nomatch e), ?_⟩
              refine O_inS ?_
              refine ⟨_, rfl, _, rfl, ?_⟩
              rw [lexW_cons] at hR₂
              refine sb (fun hc => ?_) (fun hc => ?_)
              · have hc' : c₂ ∈ blk := by simpa using hc
                rw [if_pos hc'] at hR₂
                subst hR₂
                refine Exs_cons ?_
                refine Ex_return ?_
                repeat walk_at "ev"
                exact ⟨_, List.sublist_cons_self _ _, rfl, rfl⟩
              · have hc' : ¬ c₂ ∈ blk := by simpa using hc
                rw [if_neg hc'] at hR₂
                refine Exs_cons ?_
                refine Ex_if ?_
                refine Tr_compare ?_
                repeat walk_at "ev"
                refine O_eqS (b := [92]) ?_
                refine ⟨_, rfl, _, rfl, ?_⟩
                refine sb (fun he => ?_) (fun he => ?_)
                · have he' : c₂ = 92 := by simpa using he
                  rw [if_pos he'] at hR₂
                  subst he'
                  refine Exs_cons ?_
                  refine Ex_assign ?_
                  refine ev_read tc (k := k + 3) hm dR hf hoc rm' (by omega) (by walk_at "lk") ?_
                  repeat walk_at "ev"
                  refine Ex_aug (v := .str (S tk)) (by walk_at "lk") ?_
                  repeat walk_at "ev"
                  refine O_iadds (by have : (r₃.take 1).length ≤ 1 := (by simp; omega); omega) ?_
                  repeat walk_at "ev"
                  cases r₃ with
                  | nil =>
                    refine ih₂ (tk ++ [], up (n₂ + nl 92) [], []) _ _ (by simp) ⟨⟨_, rfl⟩, rfl, by simp, by simp; omega, ?_⟩
                    dsimp only
                    rw [lexW_nil, up_nil, List.append_nil]
                    simpa [nl] using hR₂
                  | cons e₁ r₄ =>
                    refine ih₂ (tk ++ [e₁], up (n₂ + nl 92) (e₁ :: r₄), r₄) _ _ (by simp; omega) ⟨⟨_, rfl⟩, rfl, by simp at hl₄ ⊢; omega, by simp at hl₅ ⊢; omega, ?_⟩
                    dsimp only
                    rw [up_cons]
                    simpa [nl] using hR₂
                · have he' : ¬ c₂ = 92 := by simpa using he
                  rw [if_neg he'] at hR₂
                  refine Exs_nil ?_
                  refine Exs_nil ?_
                  refine Exs_cons ?_
                  refine Ex_aug (v := .str (S tk)) (by walk_at "lk") ?_
                  repeat walk_at "ev"
                  refine O_iadds (by simp; omega) ?_
                  repeat walk_at "ev"
                  exact ih₂ (tk ++ [c₂], _, r₃) _ _ (by simp) ⟨⟨_, rfl⟩, rfl, by show r₃.length ≤ r.length; omega, by simp; omega, hR₂⟩
end
section
open PySem PySem.Spec PySem.Calls PyProof.Rows PySem.P
variable {T : TI} {A : Around} {Cl N : Addr} {mN : Str → Option Value}
theorem ws_eq : Str.ofString "\n\t\r " = S blk := by first | rfl | decide +kernel
theorem init_call (tc : Tc T Cl N mN) {k : Nat} {x d : Addr} {v : V} {a : Addr} {pm cd : Value} {K} (dI : DefAt T a (fdOf (sn "_netrclex.__init__") pm cd (mth 0)) (fdB (mth 0))) (rm : Rm A (k + 1))
    (h : ∀ pb, K .none [(pb, .list []), (x, .inst Cl d (lexA 1 v pb))]) : Call T A [(x, .inst Cl d [])] (.ref a) [.ref x, v] K := by
  refine Call_def (n := k) (names := [sn "self", sn "fp"]) (ℓ₀ := [(sn "self", .ref x), (sn "fp", v)]) dI rm (fun xs hxs => ?_) (names2 (by decide +kernel)) rfl (no_cell (by kernel_rfl)) (all_local (by kernel_rfl)) (fun L => ?_)
  · obtain ⟨x, y, rfl⟩ := len2 hxs
    kernel_rfl
  have rm' := rm.deeper (callEnv (fdOf (sn "_netrclex.__init__") pm cd (mth 0)) L a)
  generalize A.deeper (callEnv (fdOf (sn "_netrclex.__init__") pm cd (mth 0)) L a) = A' at rm' ⊢
  refine Exs_cons ?_
  refine Ex_setattr tc.cls tc.lineno o_lineno tc.has ?_
  repeat walk_at "ev"
  refine ⟨x, 0, d, [], [(sn "lineno", .int 1)], rfl, rfl, by simp, by walk_at "up", ?_⟩
  refine Exs_cons ?_
  refine Ex_setattr tc.cls tc.instream o_instream tc.has ?_
  repeat walk_at "ev"
  refine ⟨x, 0, d, _, [(sn "lineno", .int 1), (sn "instream", v)], rfl, rfl, by simp, by walk_at "up", ?_⟩
  refine Exs_cons ?_
  refine Ex_setattr tc.cls tc.whitespace o_whitespace tc.has ?_
  refine Ev_str ?_
  rw [ws_eq]
  repeat walk_at "ev"
  refine ⟨x, 0, d, _, [(sn "lineno", .int 1), (sn "instream", v), (sn "whitespace", .str (S blk))], rfl, rfl, by simp, by walk_at "up", ?_⟩
  refine Exs_cons ?_
  refine Ex_setattr tc.cls tc.pushback o_pushback tc.has ?_
  refine Ev_list ?_
  refine Evs_nil ?_
  refine ⟨by simp, fun pb => ?_⟩
  repeat walk_at "ev"
  refine ⟨x, 1, d, _, lexA 1 v pb, rfl, rfl, by simp, by walk_at "up", ?_⟩
  refine Exs_nil ?_
  refine ⟨[(pb, .list []), (x, .inst Cl d (lexA 1 v pb))], List.Sublist.refl _, ?_⟩
  exact h pb
end
section
open PySem PySem.Spec PySem.Calls PyProof.Rows PySem.P
variable {T : TI} {A : Around} {Cl N : Addr} {mN : Str → Option Value}
/-- _netrclex(v) -/
theorem class_call (tc : Tc T Cl N mN) {k : Nat} {C : Cs} {v : V} {K} (rm : Rm A (k + 2)) (h : ∀ x d pb, K (.ref x) ((pb, .list []) :: (x, .inst Cl d (lexA 1 v pb)) :: C)) : Call T A C (.ref Cl) [v] K := by
  obtain ⟨fI, oI, pmI, cdI, hi, ho, hoc, hfd, dI⟩ := tc.init
  refine Call_class (n := k + 1) tc.cls hi ho dI.ne hoc rm fun x d A' rm' => ?_
  refine Call.framed (C := [(x, .inst Cl d [])]) (Fr := C) (init_call tc (k := k) (K := fun u C' => ∃ pb, u = .none ∧ C' = [(pb, .list []), (x, .inst Cl d (lexA 1 v pb))]) dI rm' fun pb => ⟨pb, rfl, rfl⟩) (List.Perm.refl _) ?_
  rintro _ _ ⟨pb, rfl, rfl⟩
  exact ⟨_, List.Perm.refl _, rfl, h x d pb⟩
theorem Call.swapL {env : Env} {ℓ : Lo} {C : Cs} {f : Value} {vs : List V} {K} (h : Call T A C f vs (fun v C' => ∃ xs H', C' = xs ++ lc env ℓ :: H' ∧ K v (xs ++ H'))) : Call T A C f vs (inH env ℓ K) := ⟨fun s xs k r => wpAny_mono (h.run s xs k r) (fun x s' p => by
  obtain ⟨v, _, ⟨ys, H', rfl, hK⟩, r, k, g⟩ := p
  have q : (ys ++ lc env ℓ :: H').Perm (lc env ℓ :: (ys ++ H')) := List.perm_middle
  exact PostG.inI (v := v) hK r (k.perm q) (g.permR q)) fun _ _ e => e⟩
structure Tn (T : TI) (mg : Str → Option Value) (Cl : Addr) : Prop where
  nest : NestAt T mg
  cls : GlobIs T (sn "_netrclex") (.ref Cl)
  tape : ∃ a pm, GlobIs T (sn "_law_tape") (.ref a) ∧ DefAt T a (fdOf (sn "_law_tape") pm (.ref T.tc) (stAt Pr 10)) (fdB (stAt Pr 10))
noncomputable abbrev tpos : Pos := stPos rdSt
theorem tape_call (tq : Tq T) (tc : Tc T Cl N mN) {mg : Str → Option Value} (tn : Tn T mg Cl) {k : Nat} {text : List Nat} {tab : Cell} {a : Addr} {pm : Value} {K} (d : DefAt T a (fdOf (sn "_law_tape") pm (.ref T.tc) (stAt Pr 10)) (fdB (stAt Pr 10))) (rm : Rm A (k + 4)) (hl : text.length ≤ 100000)
    (htab : tab = .tab ∨ ∃ c', tab = .tab1 c' tpos rdQ)
    (h : ∀ t d2 pb2 f c left doc ctv c', (∀ c0, tab = .tab1 c0 tpos rdQ → c' = c0) → K (.ref t) [(t, .inst Cl d2 (tapA pb2 f)), (f, .clo (rdFd c doc ((mg "__name__").getD .none) c' ctv) c (.ref left)), (left, .list (chs text)), (T.tb, .tab1 c' tpos rdQ)]) :
    Call T A [(T.tb, tab)] (.ref a) [.str (S text)] K := by
  refine (CallC_cell1 (n := k + 3) (p := sn "text") (y := sn "left") d rm (fun x => by kernel_rfl) rfl (by kernel_rfl) (fun k => by rfl) (by kernel_rfl) fun L => ?_).call
  have rm' := rm.deeper (callEnvC (fdOf (sn "_law_tape") pm (.ref T.tc) (stAt Pr 10)) L a)
  generalize A.deeper (callEnvC (fdOf (sn "_law_tape") pm (.ref T.tc) (stAt Pr 10)) L a) = A' at rm' ⊢
  refine Exs_cons ?_
  refine Ex_assign ?_
  refine Ev_call ?_
  refine Ev_glob tn.cls tq.ng ?_
  refine ⟨_, rfl, ?_⟩
  repeat walk_at "ev"
  refine ⟨tc.cls.callee _, ?_⟩
  refine Call.swapL (class_call tc (k := k + 1) rm' fun t d2 pb2 => ⟨[_, _], _, rfl, ?_⟩)
  apply exu
  case u => walk_at "up"
  refine Exs_cons ?_
  refine Ex_assignC (c := L + 1) ?_
  refine Ev_call ?_
  refine Ev_builtin (v := .ty "list") tq.list tq.ng tq.nb (fun _ => rfl) ?_
  refine ⟨_, rfl, ?_⟩
  repeat walk_at "ev"
  refine ⟨.inr (.inl ⟨_, rfl⟩), Call.swap (Call_listS rm' (by omega) fun left => ⟨_, _, rfl, ?_⟩)⟩
  repeat walk_at "ev"
  have hq : qualnameIn (callEnvC (fdOf (sn "_law_tape") pm (Value.ref T.tc) (stAt Pr 10)) L a) (Str.ofString "_law_read") (Str.ofString "_law_read") = rdQ := by kernel_rfl
  refine Ex_def tn.nest (j := 3) (clos := [(sn "left", L + 1)]) ?_ rfl rfl rfl ?_
  · rw [hq]
    rcases htab with rfl | ⟨c', rfl⟩
    · exact .inl rfl
    · exact .inr ⟨c', rfl⟩
  rw [hq]
  intro f c' doc ctv hc
  repeat walk_at "ev"
  refine Ex_setattr tc.cls tc.read o_read tc.has ?_
  repeat walk_at "ev"
  refine ⟨t, 3, d2, _, tapA pb2 f, rfl, rfl, by simp, by walk_at "up", ?_⟩
  repeat walk_at "ev"
  refine ⟨[(t, .inst Cl d2 (tapA pb2 f)), (f, .clo (rdFd (L + 1) doc ((mg "__name__").getD .none) c' ctv) (L + 1) (.ref left)), (left, .list (chs text)), (T.tb, .tab1 c' tpos rdQ)], ?_, ?_⟩
  · refine Turn.perm (H₁ := [(f, .clo (rdFd (L + 1) doc ((mg "__name__").getD .none) c' ctv) (L + 1) (.ref left)), (left, .list (chs text)), (t, .inst Cl d2 (tapA pb2 f)), (T.tb, .tab1 c' tpos rdQ)]) ?_ (List.perm_middle (l₁ := [_, _]) (l₂ := [_]))
    refine Turn.clo (i := 0) (x := sn "left") (v := .ref left) rfl (lk_miss (by decide +kernel) (lk_miss (by decide +kernel) lk_hit)) ?_
    exact (((List.Sublist.refl _).cons _).cons_cons _).cons_cons _
  · exact h t d2 pb2 f (L + 1) left doc ctv c' (fun c0 e => hc c0 (by rw [e]; rfl))
end
section
open PySem PySem.Spec PySem.Calls PyProof.Rows PySem.P
theorem Ev_or {T : TI} {A : Around} {env : Env} {ℓ : Lo} {H : Cs} {x y : Expr} {pos : Pos} {K} (h : Ev T A env ℓ H x fun v H₁ => OpT T A (lc env ℓ :: H₁) v (inH env ℓ fun b H₂ => if b then K v H₂ else Ev T A env ℓ H₂ y K)) : Ev T A env ℓ H (.BoolOp .Or [x, y] pos) K := by
  refine ⟨fun s k => ?_⟩
  refine wpAny_Or2 (wpAny_mono (h.run s k) ?_ fun _ _ e => e)
  rintro z s₁ ⟨v, _, ⟨H₁, rfl, hK⟩, r₁, k₁, g₁⟩
  refine wpAny_mono (hK.run s₁ z k₁ r₁) ?_ fun _ _ e => e
  rintro b s₂ ⟨b', _, ⟨H₂, rfl, hK₂⟩, rfl, k₂, g₂⟩
  cases b with
  | false => exact wp_trans (g₁.trans g₂) (hK₂.run s₂ k₂)
  | true => exact ⟨v, _, ⟨H₂, rfl, hK₂⟩, r₁.keep (g₂.tup k₁), k₂, g₁.trans g₂⟩
noncomputable def hid (q : Bool) (i c : Nat) : Bool := if q then decide (c ∈ [34, 92]) else decide (c ∈ [10, 9, 32, 92]) || (c == 34 && i == 0)
noncomputable def esc (q : Bool) (i c : Nat) : List Nat := if hid q i c then [92, c] else [c]
noncomputable def wrGo (q : Bool) (i : Nat) : List Nat → List Nat
  | [] => []
  | c :: r => esc q i c ++ wrGo q (i + 1) r
noncomputable def wr (q : Bool) (w : List Nat) : List Nat := if q then [34] ++ wrGo q 0 w ++ [34] else wrGo q 0 w
variable {T : TI} {A : Around}
theorem written_call (tq : Tq T) {k : Nat} {w : List Nat} {q : Bool} {a : Addr} {pm cd : Value} (d : DefAt T a (fdOf (sn "_law_written") pm cd (stAt Pr 11)) (fdB (stAt Pr 11))) (rm : Rm A (k + 2)) (hl : w.length ≤ 1000) (ha : w.all (· < 128) = true) :
    Call T A [] (.ref a) [.str (S w), .bool q] (fun v C' => v = .str (S (wr q w)) ∧ C' = []) := by
  refine Call_def (n := k + 1) (names := [sn "word", sn "quoted"]) (ℓ₀ := [(sn "word", .str (S w)), (sn "quoted", .bool q)]) d rm (fun xs hxs => ?_) (names2 (by decide +kernel)) rfl (no_cell (by kernel_rfl)) (all_local (by kernel_rfl)) (fun L => ?_)
  · obtain ⟨x, y, rfl⟩ := len2 hxs
    kernel_rfl
  have rm' := rm.deeper (callEnv (fdOf (sn "_law_written") pm cd (stAt Pr 11)) L a)
  generalize A.deeper (callEnv (fdOf (sn "_law_written") pm cd (stAt Pr 11)) L a) = A' at rm' ⊢
  repeat walk_at "ev"
  refine Ex_for ?_
  refine Ev_call ?_
  refine Ev_builtin (v := .ty "enumerate") tq.enum tq.ng tq.nb (fun _ => rfl) ?_
  refine ⟨_, rfl, ?_⟩
  repeat walk_at "ev"
  refine ⟨.inr (.inl ⟨_, rfl⟩), Call.swap (Call_enumerate_str (by simpa [S] using ha) fun e it => ⟨_, _, rfl, ?_⟩)⟩
  refine Itr_ens (j := 1) rfl ⟨_, rfl, ?_⟩
  refine Fo_ind (ι := Nat × List Nat) (fun i ℓ H => ℓ = [(sn "word", .str (S w)), (sn "quoted", .bool q), (sn "out", .str (S i.2))] ∧
    H = [(e, .ens it (S w) i.1)] ∧ i.1 ≤ w.length ∧ i.2.length ≤ 2 * i.1 ∧ i.2 ++ wrGo q i.1 (w.drop i.1) = wrGo q 0 w) (fun i => w.length - i.1) ?_ (0, []) ⟨rfl, rfl, by simp, by simp, by simp⟩
  rintro ⟨i, out⟩ ℓ H ⟨rfl, rfl, hi, ho, hR⟩ ih
  dsimp only at hi ho hR ih ⊢
  refine Fo_step ?_
  by_cases hlt : i < w.length
  · have hd : w.drop i = w[i] :: w.drop (i + 1) := (List.getElem_cons_drop hlt).symm
    rw [hd, wrGo] at hR
    have hc : (S w).cps[i]? = some w[i] := by simp [S, hlt]
    generalize w[i] = c at hR hc hd
    refine Nt_ens (i := 1) (c := c) rm' rfl hc ⟨_, rfl, ?_⟩
    refine Asn_tuple rm' (Asns_cons (Asn_name ?_))
    apply exu
    case u => walk_at "up"
    refine Asns_cons (Asn_name ?_)
    apply exu
    case u => walk_at "up"
    refine Asns_nil ?_
    refine Exs_cons ?_
    refine Ex_if ?_
    refine Tr_value ?_
    repeat walk_at "ev"
    refine T_bool ?_
    refine ⟨_, rfl, ?_⟩
    cases q with
    | true =>
      refine sbT ?_
      repeat walk_at "ev"
      refine O_inS (b := [34, 92]) ?_
      repeat walk_at "ev"
      refine Ex_aug (v := .str (S out)) (by walk_at "lk") ?_
      refine Ev_ifexp ?_
      refine Tr_value ?_
      repeat walk_at "ev"
      refine T_bool ?_
      refine ⟨_, rfl, ?_⟩
      refine sb (fun hh => ?_) (fun hh => ?_)
      · repeat walk_at "ev"
        refine O_adds (a := [92]) (b := [c]) (by simp) ?_
        repeat walk_at "ev"
        refine O_iadds (by simp; omega) ?_
        repeat walk_at "ev"
        refine Fo.forget (ℓ' := [(sn "word", .str (S w)), (sn "quoted", .bool true), (sn "out", .str (S (out ++ ([92] ++ [c]))))]) (Sub_cons (Sub_cons (Sub_cons Sub_nil))) ?_
        exact ih (i + 1, out ++ ([92] ++ [c])) _ _ (by simp; omega) ⟨rfl, rfl, by simp; omega, by simp; omega, by
          have hE : esc true i c = [92, c] := if_pos (by simpa [hid] using hh)
          rw [hE, ← List.append_assoc] at hR; exact hR⟩
      · repeat walk_at "ev"
        refine O_iadds (by simp; omega) ?_
        repeat walk_at "ev"
        refine Fo.forget (ℓ' := [(sn "word", .str (S w)), (sn "quoted", .bool true), (sn "out", .str (S (out ++ [c])))]) (Sub_cons (Sub_cons (Sub_cons Sub_nil))) ?_
        exact ih (i + 1, out ++ [c]) _ _ (by simp; omega) ⟨rfl, rfl, by simp; omega, by simp; omega, by
          have hE : esc true i c = [c] := if_neg (by simpa [hid] using hh)
          rw [hE, ← List.append_assoc] at hR; exact hR⟩
    | false =>
      refine sbF ?_
      repeat walk_at "ev"
      refine Ev_or ?_
      repeat walk_at "ev"
      refine O_inS (b := [10, 9, 32, 92]) ?_
      refine ⟨_, rfl, ?_⟩
      refine T_bool ?_
      refine ⟨_, rfl, ?_⟩
      refine sb (fun h1 => ?_) (fun h1 => ?_)
      · repeat walk_at "ev"
        refine Ex_aug (v := .str (S out)) (by walk_at "lk") ?_
        refine Ev_ifexp ?_
        refine Tr_value ?_
        repeat walk_at "ev"
        refine T_bool ?_
        refine ⟨_, rfl, ?_⟩
        refine sb (fun hh => ?_) (fun hh => ?_)
        · repeat walk_at "ev"
          refine O_adds (a := [92]) (b := [c]) (by simp) ?_
          repeat walk_at "ev"
          refine O_iadds (by simp; omega) ?_
          repeat walk_at "ev"
          refine Fo.forget (ℓ' := [(sn "word", .str (S w)), (sn "quoted", .bool false), (sn "out", .str (S (out ++ ([92] ++ [c]))))]) (Sub_cons (Sub_cons (Sub_cons Sub_nil))) ?_
          exact ih (i + 1, out ++ ([92] ++ [c])) _ _ (by simp; omega) ⟨rfl, rfl, by simp; omega, by simp; omega, by
            have hE : esc false i c = [92, c] := if_pos (by unfold hid; simp only [Bool.false_eq_true, if_false]; rw [h1]; rfl)
            rw [hE, ← List.append_assoc] at hR; exact hR⟩
        · repeat walk_at "ev"
          refine O_iadds (by simp; omega) ?_
          repeat walk_at "ev"
          refine Fo.forget (ℓ' := [(sn "word", .str (S w)), (sn "quoted", .bool false), (sn "out", .str (S (out ++ [c])))]) (Sub_cons (Sub_cons (Sub_cons Sub_nil))) ?_
          exact ih (i + 1, out ++ [c]) _ _ (by simp; omega) ⟨rfl, rfl, by simp; omega, by simp; omega, by
            have hE : esc false i c = [c] := if_neg (by rw [h1] at hh; cases hh)
            rw [hE, ← List.append_assoc] at hR; exact hR⟩
      · refine Ev_and ?_
        repeat walk_at "ev"
        refine O_eqS (b := [34]) ?_
        refine ⟨_, rfl, ?_⟩
        refine T_bool ?_
        refine ⟨_, rfl, ?_⟩
        refine sb (fun h2 => ?_) (fun h2 => ?_)
        · repeat walk_at "ev"
          refine Ex_aug (v := .str (S out)) (by walk_at "lk") ?_
          refine Ev_ifexp ?_
          refine Tr_value ?_
          repeat walk_at "ev"
          refine T_bool ?_
          refine ⟨_, rfl, ?_⟩
          refine sb (fun hh => ?_) (fun hh => ?_)
          · repeat walk_at "ev"
            refine O_adds (a := [92]) (b := [c]) (by simp) ?_
            repeat walk_at "ev"
            refine O_iadds (by simp; omega) ?_
            repeat walk_at "ev"
            refine Fo.forget (ℓ' := [(sn "word", .str (S w)), (sn "quoted", .bool false), (sn "out", .str (S (out ++ ([92] ++ [c]))))]) (Sub_cons (Sub_cons (Sub_cons Sub_nil))) ?_
            exact ih (i + 1, out ++ ([92] ++ [c])) _ _ (by simp; omega) ⟨rfl, rfl, by simp; omega, by simp; omega, by
              have hE : esc false i c = [92, c] := if_pos (by simp [hid] at hh h1 h2 ⊢; simp [hh, h1, h2])
              rw [hE, ← List.append_assoc] at hR; exact hR⟩
          · repeat walk_at "ev"
            refine O_iadds (by simp; omega) ?_
            repeat walk_at "ev"
            refine Fo.forget (ℓ' := [(sn "word", .str (S w)), (sn "quoted", .bool false), (sn "out", .str (S (out ++ [c])))]) (Sub_cons (Sub_cons (Sub_cons Sub_nil))) ?_
            exact ih (i + 1, out ++ [c]) _ _ (by simp; omega) ⟨rfl, rfl, by simp; omega, by simp; omega, by
              have hE : esc false i c = [c] := if_neg (by simp [hid] at hh h1 h2 ⊢; simp [hh, h1, h2])
              rw [hE, ← List.append_assoc] at hR; exact hR⟩
        · repeat walk_at "ev"
          refine Ex_aug (v := .str (S out)) (by walk_at "lk") ?_
          refine Ev_ifexp ?_
          refine Tr_value ?_
          repeat walk_at "ev"
          refine T_bool ?_
          refine ⟨_, rfl, ?_⟩
          refine sb (fun hh => ?_) (fun hh => ?_)
          · repeat walk_at "ev"
            refine O_adds (a := [92]) (b := [c]) (by simp) ?_
            repeat walk_at "ev"
            refine O_iadds (by simp; omega) ?_
            repeat walk_at "ev"
            refine Fo.forget (ℓ' := [(sn "word", .str (S w)), (sn "quoted", .bool false), (sn "out", .str (S (out ++ ([92] ++ [c]))))]) (Sub_cons (Sub_cons (Sub_cons Sub_nil))) ?_
            exact ih (i + 1, out ++ ([92] ++ [c])) _ _ (by simp; omega) ⟨rfl, rfl, by simp; omega, by simp; omega, by
              have hE : esc false i c = [92, c] := if_pos (by rw [h2] at hh; cases hh)
              rw [hE, ← List.append_assoc] at hR; exact hR⟩
          · repeat walk_at "ev"
            refine O_iadds (by simp; omega) ?_
            repeat walk_at "ev"
            refine Fo.forget (ℓ' := [(sn "word", .str (S w)), (sn "quoted", .bool false), (sn "out", .str (S (out ++ [c])))]) (Sub_cons (Sub_cons (Sub_cons Sub_nil))) ?_
            exact ih (i + 1, out ++ [c]) _ _ (by simp; omega) ⟨rfl, rfl, by simp; omega, by simp; omega, by
              have hE : esc false i c = [c] := if_neg (by simp [hid] at hh h1 h2 ⊢; simp [hh, h1, h2])
              rw [hE, ← List.append_assoc] at hR; exact hR⟩
  · have hie : i = w.length := by omega
    subst hie
    rw [List.drop_eq_nil_of_le (by omega), wrGo, List.append_nil] at hR
    refine Nt_ens_end (i := 1) rm' rfl (by simp [S]) ⟨_, rfl, ?_⟩
    refine Exs_nil ?_
    refine Exs_cons ?_
    refine Ex_return ?_
    refine Ev_ifexp ?_
    refine Tr_value ?_
    repeat walk_at "ev"
    refine T_bool ?_
    refine ⟨_, rfl, ?_⟩
    cases q with
    | true =>
      refine sbT ?_
      repeat walk_at "ev"
      refine O_adds (a := [34]) (by simp; omega) ?_
      repeat walk_at "ev"
      refine O_adds (b := [34]) (by simp; omega) ?_
      repeat walk_at "ev"
      exact ⟨_, List.Sublist.refl _, by rw [hR]; rfl, rfl⟩
    | false =>
      refine sbF ?_
      repeat walk_at "ev"
      exact ⟨_, List.Sublist.refl _, by rw [hR]; rfl, rfl⟩
end
section
open PySem PySem.Spec PySem.Calls PyProof.Rows PySem.P
noncomputable def sgs : List Nat := [97, 98, 10, 32, 34, 92, 35, 9]
noncomputable def gps : List (List Nat) := [[10], [32], [10, 10, 10], [9, 10]]
structure FS where
  texts : List (List Nat)
  stops : List Nat
  words : List KT
noncomputable def rowOf (x : List Nat) (n : Nat) : Nat := 1 + (x.take n).count 10
noncomputable def fWord (f : Nat) : List Nat := [sgs.getD (f / 40 % 8) 0, sgs.getD (f / 320 % 8) 0]
noncomputable def fQ (f : Nat) : Bool := f / 5 % 2 == 1
noncomputable def fStep (st : FS) (place f : Nat) : FS :=
  let x := st.texts.getD (f % 5) []
  let y := x ++ wr (fQ f) (fWord f)
  { texts := (st.texts.set (f % 5) y).set (f % 5) (y ++ gps.getD (f / 10 % 4) []),
    stops := st.stops.set (f % 5) (y.length + if fQ f then 0 else 1),
    words := st.words ++ [([(rowOf x (st.stops.getD (f % 5) 0) : Int), (f % 5 : Nat), (place : Nat)], [.str (S (fWord f))])] }
noncomputable def fGo (st : FS) (place : Nat) : List Nat → FS
  | [] => st
  | f :: r => fGo (fStep st place f) (place + 1) r
noncomputable def fEnd (st : FS) (w : Nat) : FS :=
  { st with words := st.words ++ [([(rowOf (st.texts.getD w []) (st.stops.getD w 0) : Int), (w : Nat), (st.words.length : Nat)], [.str (S [])])] }
noncomputable def fFin (st : FS) (w : Nat) : Nat → FS
  | 0 => st
  | k + 1 => fFin (fEnd st w) (w + 1) k
noncomputable def fs0 : FS := ⟨[[], [], [], [], []], [0, 0, 0, 0, 0], []⟩
noncomputable def iV (l : List Nat) : List V := l.map fun (n : Nat) => V.int (n : Int)
/-- each word bears its place -/
noncomputable def WK (ws : List KT) : Prop := ∀ (j : Nat) x, ws[j]? = some x → ∃ r w z, x = ([r, w, (j : Int)], [V.str z])
theorem WK_nil : WK [] := fun j x e => by simp at e
theorem WK_app {ws : List KT} (h : WK ws) (r w : Int) (z : Str) : WK (ws ++ [([r, w, (ws.length : Int)], [V.str z])]) := fun j x e => by
  by_cases hj : j < ws.length
  · rw [List.getElem?_append_left hj] at e; exact h j x e
  · rw [List.getElem?_append_right (by omega)] at e
    have hj' : j = ws.length := by
      by_cases hh : j - ws.length = 0
      · omega
      · rw [List.getElem?_eq_none (by simp; omega)] at e; cases e
    subst hj'
    simp at e
    exact ⟨r, w, z, e.symm⟩
theorem if_int {T : TI} {A : Around} {env : Env} {ℓ : Lo} {H : Cs} {x y : Int} {k1 k2 : Nat} {p1 p2 : Pos} {b : Bool} {K} (h : K (.int (if b = true then x else y)) H) : if b = true then Ev T A env ℓ H (.Constant (.int x) k1 p1) K else Ev T A env ℓ H (.Constant (.int y) k2 p2) K := by
  cases b
  · exact Ev_int h
  · exact Ev_int h
theorem wr_len (q : Bool) (a b : Nat) : (wr q [a, b]).length ≤ 6 := by
  have e1 : ∀ q i c, (esc q i c).length ≤ 2 := fun q i c => by unfold esc; split <;> simp
  have b0 := e1 q 0 a
  have b1 := e1 q 1 b
  unfold wr
  split
  · simp only [wrGo, List.length_append, List.length_cons, List.length_nil, Nat.zero_add]
    omega
  · simp only [wrGo, List.length_append, List.length_nil, Nat.zero_add]
    omega
variable {T : TI} {A : Around}
theorem files_call (tq : Tq T) {k : Nat} {figs : List Nat} {F a aW : Addr} {pm cd pmW cdW : Value} {K} (d : DefAt T a (fdOf (sn "_law_files") pm cd (stAt Pr 12)) (fdB (stAt Pr 12)))
    (hgW : GlobIs T (sn "_law_written") (.ref aW)) (dW : DefAt T aW (fdOf (sn "_law_written") pmW cdW (stAt Pr 11)) (fdB (stAt Pr 11))) (rm : Rm A (k + 4)) (hl : figs.length ≤ 50) (hf : ∀ f ∈ figs, f < 1000000)
    (h : ∀ (tx wd : Addr) (ys : List KT), ys.Perm (fFin (fGo fs0 0 figs) 0 5).words → ys.Pairwise (fun x y => lexB x.1 y.1 = true) → K (.tup [.ref tx, .ref wd]) [(wd, .list (ys.map tupK)), (tx, .list (sV (fFin (fGo fs0 0 figs) 0 5).texts)), (F, .list (iV figs))]) :
    Call T A [(F, .list (iV figs))] (.ref a) [.ref F] K := by
  refine Call_def (n := k + 3) (names := [sn "figures"]) (ℓ₀ := [(sn "figures", .ref F)]) d rm (fun xs hxs => ?_) (by simp) rfl (no_cell (by kernel_rfl)) (all_local (by kernel_rfl)) (fun L => ?_)
  · obtain ⟨x, rfl⟩ := len1 hxs
    kernel_rfl
  have rm' := rm.deeper (callEnv (fdOf (sn "_law_files") pm cd (stAt Pr 12)) L a)
  generalize A.deeper (callEnv (fdOf (sn "_law_files") pm cd (stAt Pr 12)) L a) = A' at rm' ⊢
  repeat walk_at "ev"
  refine Ev_list ?_
  repeat walk_at "ev"
  refine ⟨by simp, fun G => ?_⟩
  repeat walk_at "ev"
  refine Ev_list ?_
  repeat walk_at "ev"
  refine ⟨by simp, fun X => ?_⟩
  repeat walk_at "ev"
  refine Ev_list ?_
  repeat walk_at "ev"
  refine ⟨by simp, fun P => ?_⟩
  repeat walk_at "ev"
  refine Ev_list ?_
  repeat walk_at "ev"
  refine ⟨by simp, fun W => ?_⟩
  repeat walk_at "ev"
  refine Ex_for ?_
  refine Ev_call ?_
  refine Ev_builtin (v := .ty "enumerate") tq.enum tq.ng tq.nb (fun _ => rfl) ?_
  refine ⟨_, rfl, ?_⟩
  repeat walk_at "ev"
  refine ⟨.inr (.inl ⟨_, rfl⟩), Call.swap (Call_enumerate_list (j := 5) rfl fun e it => ⟨_, _, rfl, ?_⟩)⟩
  refine Itr_enl (j := 1) rfl ⟨_, rfl, ?_⟩
  generalize hRR : fFin (fGo fs0 0 figs) 0 5 = R at h
  refine Fo_ind (ι := Nat × FS) (fun i ℓ H => ℓ = [(sn "figures", V.ref F), (sn "signs", .str (S sgs)), (sn "gaps", .ref G), (sn "texts", .ref X), (sn "stops", .ref P), (sn "words", .ref W)] ∧
    H = [(e, .enl it F i.1), (W, .list (i.2.words.map tupK)), (P, .list (iV i.2.stops)), (X, .list (sV i.2.texts)), (G, .list (sV gps)), (F, .list (iV figs))] ∧
    i.1 ≤ figs.length ∧ i.2.texts.length = 5 ∧ i.2.stops.length = 5 ∧ (∀ x ∈ i.2.texts, x.length ≤ 100 * i.1) ∧ (∀ x ∈ i.2.stops, x ≤ 100 * i.1 + 1) ∧ i.2.words.length = i.1 ∧ WK i.2.words ∧ fFin (fGo i.2 i.1 (figs.drop i.1)) 0 5 = R) (fun i => figs.length - i.1) ?_ (0, fs0)
    ⟨rfl, rfl, by simp, rfl, rfl, by simp [fs0], by simp [fs0], rfl, WK_nil, hRR⟩
  clear hRR
  rintro ⟨i, st⟩ ℓ H ⟨rfl, rfl, hi, ht5, hs5, htl, hsl, hwl, hwk, hR⟩ ih
  obtain ⟨texts, stops, words⟩ := st
  dsimp only at hi ht5 hs5 htl hsl hwl hR ih ⊢
  refine Fo_step ?_
  by_cases hlt : i < figs.length
  · have hd : figs.drop i = figs[i] :: figs.drop (i + 1) := (List.getElem_cons_drop hlt).symm
    rw [hd, fGo] at hR
    have hv : (iV figs)[i]? = some (.int (figs[i] : Nat)) := by simp [iV, hlt]
    have hf6 : figs[i] < 1000000 := hf _ (List.getElem_mem _)
    generalize figs[i] = f at hR hv hd hf6
    refine Nt_enl (i := 1) (j := 6) rfl rfl hv ⟨_, rfl, ?_⟩
    refine Asn_tuple rm' (Asns_cons (Asn_name ?_))
    apply exu
    case u => walk_at "up"
    refine Asns_cons (Asn_name ?_)
    apply exu
    case u => walk_at "up"
    refine Asns_nil ?_
    repeat walk_at "ev"
    refine O_fmod (by omega) ?_
    rw [show ((f : Int).fmod 5) = ((f % 5 : Nat) : Int) from fmod2 f 5]
    repeat walk_at "ev"
    refine O_fdiv (by omega) (by decide) ?_
    rw [show ((f : Int).fdiv 5) = ((f / 5 : Nat) : Int) from fdiv2 f 5]
    repeat walk_at "ev"
    refine O_fmod (by omega) ?_
    rw [show (((f / 5 : Nat) : Int).fmod 2) = ((f / 5 % 2 : Nat) : Int) from fmod2 (f / 5) 2]
    repeat walk_at "ev"
    rw [show ((((f / 5 % 2 : Nat) : Int)) == 1) = fQ f by
      unfold fQ
      rw [Bool.eq_iff_iff]; simp only [beq_iff_eq]; omega]
    repeat walk_at "ev"
    refine O_fdiv (by omega) (by decide) ?_
    rw [show ((f : Int).fdiv 40) = ((f / 40 : Nat) : Int) from fdiv2 f 40]
    repeat walk_at "ev"
    refine O_fmod (by omega) ?_
    rw [show (((f / 40 : Nat) : Int).fmod 8) = ((f / 40 % 8 : Nat) : Int) from fmod2 (f / 40) 8]
    repeat walk_at "ev"
    have sg : ∀ j, j < 8 → sgs[j]? = some (sgs.getD j 0) := fun j hj => by
      rw [List.getD_eq_getElem?_getD, List.getElem?_eq_getElem (show j < sgs.length from hj)]; rfl
    refine O_itemS (a := sgs) (c := sgs.getD (f / 40 % 8) 0) (by omega) (by omega) (by rw [Int.toNat_natCast]; exact sg _ (by omega)) ?_
    repeat walk_at "ev"
    refine O_fdiv (by omega) (by decide) ?_
    rw [show ((f : Int).fdiv 320) = ((f / 320 : Nat) : Int) from fdiv2 f 320]
    repeat walk_at "ev"
    refine O_fmod (by omega) ?_
    rw [show (((f / 320 : Nat) : Int).fmod 8) = ((f / 320 % 8 : Nat) : Int) from fmod2 (f / 320) 8]
    repeat walk_at "ev"
    refine O_itemS (a := sgs) (c := sgs.getD (f / 320 % 8) 0) (by omega) (by omega) (by rw [Int.toNat_natCast]; exact sg _ (by omega)) ?_
    repeat walk_at "ev"
    refine O_adds (by simp) ?_
    rw [show ([sgs.getD (f / 40 % 8) 0] ++ [sgs.getD (f / 320 % 8) 0]) = fWord f from rfl]
    repeat walk_at "ev"
    have h5 : f % 5 < 5 := by omega
    have tx : ∀ j, j < 5 → (sV texts)[j]? = some (.str (S (texts.getD j []))) := fun j hj => by
      rw [sV, List.getElem?_map, List.getD_eq_getElem?_getD, List.getElem?_eq_getElem (show j < texts.length by omega)]; rfl
    have sp : ∀ j, j < 5 → (iV stops)[j]? = some (.int (stops.getD j 0 : Nat)) := fun j hj => by
      rw [iV, List.getElem?_map, List.getD_eq_getElem?_getD, List.getElem?_eq_getElem (show j < stops.length by omega)]; rfl
    have htx : (texts.getD (f % 5) []).length ≤ 100 * i := htl _ (by
      rw [List.getD_eq_getElem?_getD, List.getElem?_eq_getElem (show f % 5 < texts.length by omega)]; exact List.getElem_mem _)
    refine Ev_method ?_
    repeat walk_at "ev"
    refine O_item (i := 4) rfl (by omega) (by omega) (by rw [Int.toNat_natCast]; exact tx _ h5) ?_
    repeat walk_at "ev"
    refine O_item (i := 3) rfl (by omega) (by omega) (by rw [Int.toNat_natCast]; exact sp _ h5) ?_
    repeat walk_at "ev"
    refine O_upto_str (by omega) (by omega) ?_
    rw [Int.toNat_natCast]
    refine ⟨_, rfl, ?_⟩
    refine ⟨_, GM_str PySem.F.slot_str_count PySem.F.type_str_count, .inl ⟨_, rfl⟩, ?_⟩
    repeat walk_at "ev"
    refine ⟨.inl ⟨_, rfl⟩, Call_count (c := 10) ?_⟩
    repeat walk_at "ev"
    refine Ev_method ?_
    repeat walk_at "ev"
    refine ⟨_, GM_list (i := 2) rfl PySem.F.slot_list_append PySem.F.type_list_append, .inl ⟨_, rfl⟩, ?_⟩
    repeat walk_at "ev"
    refine ⟨by simp, ?_⟩
    repeat walk_at "ev"
    refine ⟨.inl ⟨_, rfl⟩, Call_append (i := 2) rfl (by simp; omega) ?_⟩
    refine ⟨_, rfl, rfl, ?_⟩
    refine Exs_cons ?_
    refine Ex_augitem ?_
    repeat walk_at "ev"
    refine ⟨X, 3, sV texts, _, _, rfl, rfl, rfl, by omega, by omega, by rw [Int.toNat_natCast]; exact tx _ h5, ?_⟩
    refine Ev_call ?_
    refine Ev_glob hgW tq.ng ?_
    refine ⟨_, rfl, ?_⟩
    repeat walk_at "ev"
    have hwa : (fWord f).all (· < 128) = true := by
      have key : ∀ j, sgs.getD j 0 < 128 := fun j => by
        by_cases hj : j < 8
        · have : ∀ j, j < 8 → sgs.getD j 0 < 128 := by decide
          exact this j hj
        · rw [List.getD_eq_getElem?_getD, List.getElem?_eq_none (by show 8 ≤ j; omega)]; decide
      simp only [fWord, List.all_cons, List.all_nil, Bool.and_true, Bool.and_eq_true, decide_eq_true_eq]
      exact ⟨key _, key _⟩
    refine ⟨dW.callee _, Call.framed (C := []) (written_call tq (k := k + 1) (w := fWord f) (q := fQ f) dW rm' (by simp [fWord]) hwa) (List.Perm.refl _) ?_⟩
    rintro _ _ ⟨rfl, rfl⟩
    refine ⟨_, List.Perm.refl _, _, rfl, ?_⟩
    have hwr : (wr (fQ f) (fWord f)).length ≤ 6 := wr_len _ _ _
    refine O_iadds (by omega) ?_
    refine ⟨_, rfl, 3, sV texts, rfl, by simp [sV]; omega, by simp [sV]; omega, ?_⟩
    have tset : ∀ (y : List Nat), (sV texts).set (Int.toNat ((f % 5 : Nat) : Int)) (.str (S y)) = sV (texts.set (f % 5) y) := fun y => by
      rw [Int.toNat_natCast, sV, sV, List.map_set]
    rw [tset]
    refine Exs_cons ?_
    refine Ex_setitem ?_
    refine Ev_binop ?_
    refine Ev_call ?_
    refine Ev_builtin (v := .bi "len") tq.len tq.ng tq.nb (fun _ => rfl) ?_
    refine ⟨_, rfl, ?_⟩
    repeat walk_at "ev"
    generalize hy : texts.getD (f % 5) [] ++ wr (fQ f) (fWord f) = y at *
    have hyl : y.length ≤ 100 * i + 6 := by rw [← hy, List.length_append]; omega
    have tx2 : (sV (texts.set (f % 5) y))[f % 5]? = some (.str (S y)) := by
      rw [sV, List.getElem?_map, List.getElem?_set_self (by omega)]; rfl
    refine O_item (i := 4) rfl (by omega) (by omega) (by rw [Int.toNat_natCast]; exact tx2) ?_
    repeat walk_at "ev"
    refine ⟨.inl ⟨_, rfl⟩, Call_lenS (by omega) ?_⟩
    refine ⟨_, rfl, ?_⟩
    refine Ev_ifexp ?_
    refine Tr_value ?_
    repeat walk_at "ev"
    refine T_bool ?_
    refine ⟨_, rfl, ?_⟩
    refine if_int ?_
    refine O_add ?_
    refine ⟨_, rfl, ?_⟩
    repeat walk_at "ev"
    refine ⟨P, 2, iV stops, _, rfl, rfl, rfl, by omega, by simp [iV]; omega, by simp [iV]; omega, ?_⟩
    have sset : (iV stops).set (Int.toNat ((f % 5 : Nat) : Int)) (.int ((y.length : Int) + if fQ f = true then 0 else 1)) = iV (stops.set (f % 5) (y.length + if fQ f then 0 else 1)) := by
      rw [Int.toNat_natCast, iV, iV, List.map_set]
      congr 2
      split <;> simp
    rw [sset]
    refine Exs_cons ?_
    refine Ex_augitem ?_
    repeat walk_at "ev"
    refine ⟨X, 3, sV (texts.set (f % 5) y), _, _, rfl, rfl, rfl, by omega, by omega, by rw [Int.toNat_natCast]; exact tx2, ?_⟩
    repeat walk_at "ev"
    refine O_fdiv (by omega) (by decide) ?_
    rw [show ((f : Int).fdiv 10) = ((f / 10 : Nat) : Int) from fdiv2 f 10]
    repeat walk_at "ev"
    refine O_fmod (by omega) ?_
    rw [show (((f / 10 : Nat) : Int).fmod 4) = ((f / 10 % 4 : Nat) : Int) from fmod2 (f / 10) 4]
    repeat walk_at "ev"
    have gp : ∀ j, j < 4 → (sV gps)[j]? = some (.str (S (gps.getD j []))) := fun j hj => by
      rw [sV, List.getElem?_map, List.getD_eq_getElem?_getD, List.getElem?_eq_getElem (show j < gps.length from hj)]; rfl
    have gl : (gps.getD (f / 10 % 4) []).length ≤ 3 := by
      have : ∀ j, j < 4 → (gps.getD j []).length ≤ 3 := by decide
      exact this _ (by omega)
    refine O_item (i := 5) rfl (by omega) (by omega) (by rw [Int.toNat_natCast]; exact gp _ (by omega)) ?_
    refine ⟨_, rfl, ?_⟩
    refine O_iadds (by omega) ?_
    refine ⟨_, rfl, 3, sV (texts.set (f % 5) y), rfl, by simp [sV]; omega, by simp [sV]; omega, ?_⟩
    have tset2 : ∀ (z : List Nat), (sV (texts.set (f % 5) y)).set (Int.toNat ((f % 5 : Nat) : Int)) (.str (S z)) = sV ((texts.set (f % 5) y).set (f % 5) z) := fun z => by
      simp only [Int.toNat_natCast, sV, List.map_set]
    rw [tset2]
    refine Exs_nil ?_
    refine Fo.forget (ℓ' := [(sn "figures", V.ref F), (sn "signs", .str (S sgs)), (sn "gaps", .ref G), (sn "texts", .ref X), (sn "stops", .ref P), (sn "words", .ref W)]) (Sub_cons (Sub_cons (Sub_cons (Sub_cons (Sub_cons (Sub_cons Sub_nil)))))) ?_
    refine ih (i + 1, fStep ⟨texts, stops, words⟩ i f) _ _ (by simp; omega) ⟨rfl, ?_, by simp; omega, ?_, ?_, ?_, ?_, ?_, ?_, hR⟩
    · simp only [fStep, hy, List.map_append]
      rfl
    · simp [fStep, ht5]
    · simp [fStep, hs5]
    · intro x hx
      simp only [fStep, hy] at hx
      rcases List.mem_or_eq_of_mem_set hx with hx | rfl
      · rcases List.mem_or_eq_of_mem_set hx with hx | rfl
        · have := htl x hx
          show x.length ≤ 100 * (i + 1); omega
        · show x.length ≤ 100 * (i + 1); omega
      · show (y ++ _).length ≤ 100 * (i + 1)
        rw [List.length_append]; omega
    · intro x hx
      simp only [fStep, hy] at hx
      rcases List.mem_or_eq_of_mem_set hx with hx | rfl
      · have := hsl x hx
        show x ≤ 100 * (i + 1) + 1; omega
      · show (y.length + if fQ f = true then 0 else 1) ≤ 100 * (i + 1) + 1
        split <;> omega
    · simp [fStep, hwl]
    · simp only [fStep]
      rw [← hwl]
      exact WK_app hwk _ _ _
  · have hie : i = figs.length := by omega
    subst hie
    rw [List.drop_eq_nil_of_le (by omega), fGo] at hR
    refine Nt_enl_end (i := 1) (j := 6) rm' rfl rfl (by simp [iV]) ⟨_, rfl, ?_⟩
    refine Exs_nil ?_
    refine Exs_cons ?_
    refine Ex_for ?_
    refine Ev_call ?_
    refine Ev_builtin (v := .ty "range") tq.range tq.ng tq.nb (fun _ => rfl) ?_
    refine ⟨_, rfl, ?_⟩
    repeat walk_at "ev"
    refine ⟨.inr (.inl ⟨_, rfl⟩), Call.swap (Call_range fun r => ⟨_, _, rfl, ?_⟩)⟩
    refine Itr.swap (Itr_rng (j := 1) (n := 5) rfl (by omega) (by omega) (by omega) (by omega) (by simp) fun it2 => ⟨_, _, rfl, ?_⟩)
    clear ih
    refine Fo_ind (ι := Nat × List KT) (fun i ℓ H => ℓ = [(sn "figures", V.ref F), (sn "signs", .str (S sgs)), (sn "gaps", .ref G), (sn "texts", .ref X), (sn "stops", .ref P), (sn "words", .ref W)] ∧
      H = [(it2, .rit (i.1 : Int) ((5 - i.1 : Nat) : Int) 1), (r, .rng 0 5 1), (W, .list (i.2.map tupK)), (P, .list (iV stops)), (X, .list (sV texts)), (G, .list (sV gps)), (F, .list (iV figs))] ∧
      i.1 ≤ 5 ∧ i.2.length = figs.length + i.1 ∧ WK i.2 ∧ fFin ⟨texts, stops, i.2⟩ i.1 (5 - i.1) = R) (fun i => 5 - i.1) ?_ (0, words) ⟨rfl, rfl, by simp, by simpa using hwl, hwk, hR⟩
    clear hR hwk hwl
    rintro ⟨i, ws⟩ ℓ H ⟨rfl, rfl, hi5, hwl, hwk, hR⟩ ih
    dsimp only at hi5 hwl hwk hR ih ⊢
    refine Fo_step ?_
    by_cases h5 : i < 5
    · obtain ⟨m, hm⟩ : ∃ m, 5 - i = m + 1 := ⟨5 - i - 1, by omega⟩
      rw [hm, fFin] at hR
      refine Nt_range (i := 1) rfl (by omega) ⟨_, rfl, ?_⟩
      refine Asn_name ?_
      repeat walk_at "ev"
      have tx : ∀ j, j < 5 → (sV texts)[j]? = some (.str (S (texts.getD j []))) := fun j hj => by
        rw [sV, List.getElem?_map, List.getD_eq_getElem?_getD, List.getElem?_eq_getElem (show j < texts.length by omega)]; rfl
      have sp : ∀ j, j < 5 → (iV stops)[j]? = some (.int (stops.getD j 0 : Nat)) := fun j hj => by
        rw [iV, List.getElem?_map, List.getD_eq_getElem?_getD, List.getElem?_eq_getElem (show j < stops.length by omega)]; rfl
      have htx : (texts.getD i []).length ≤ 100 * figs.length := htl _ (by
        rw [List.getD_eq_getElem?_getD, List.getElem?_eq_getElem (show i < texts.length by omega)]; exact List.getElem_mem _)
      refine Ev_method ?_
      repeat walk_at "ev"
      refine O_item (i := 5) rfl (by omega) (by omega) (by rw [Int.toNat_natCast]; exact tx _ h5) ?_
      repeat walk_at "ev"
      refine O_item (i := 4) rfl (by omega) (by omega) (by rw [Int.toNat_natCast]; exact sp _ h5) ?_
      repeat walk_at "ev"
      refine O_upto_str (by omega) (by omega) ?_
      rw [Int.toNat_natCast]
      refine ⟨_, rfl, ?_⟩
      refine ⟨_, GM_str PySem.F.slot_str_count PySem.F.type_str_count, .inl ⟨_, rfl⟩, ?_⟩
      repeat walk_at "ev"
      refine ⟨.inl ⟨_, rfl⟩, Call_count (c := 10) ?_⟩
      repeat walk_at "ev"
      refine Ev_method ?_
      repeat walk_at "ev"
      refine ⟨_, GM_list (i := 3) rfl PySem.F.slot_list_append PySem.F.type_list_append, .inl ⟨_, rfl⟩, ?_⟩
      repeat walk_at "ev"
      refine Ev_call ?_
      refine Ev_builtin (v := .bi "len") tq.len tq.ng tq.nb (fun _ => rfl) ?_
      refine ⟨_, rfl, ?_⟩
      repeat walk_at "ev"
      refine ⟨.inl ⟨_, rfl⟩, Call_len (i := 3) rfl (by simp; omega) ?_⟩
      rw [List.length_map]
      repeat walk_at "ev"
      refine ⟨by simp, ?_⟩
      repeat walk_at "ev"
      refine ⟨.inl ⟨_, rfl⟩, Call_append (i := 3) rfl (by simp; omega) ?_⟩
      refine ⟨_, rfl, rfl, ?_⟩
      refine Exs_nil ?_
      refine Fo.forget (ℓ' := [(sn "figures", V.ref F), (sn "signs", .str (S sgs)), (sn "gaps", .ref G), (sn "texts", .ref X), (sn "stops", .ref P), (sn "words", .ref W)]) (Sub_cons (Sub_cons (Sub_cons (Sub_cons (Sub_cons (Sub_cons Sub_nil)))))) ?_
      refine ih (i + 1, ws ++ [([(rowOf (texts.getD i []) (stops.getD i 0) : Int), (i : Nat), (ws.length : Nat)], [.str (S [])])]) _ _ (by simp; omega) ⟨rfl, ?_, by simp; omega, by simp; omega, WK_app hwk _ _ _, ?_⟩
      · rw [List.map_append]
        have e1 : ((5 - i : Nat) : Int) - 1 = ((5 - (i + 1) : Nat) : Int) := by omega
        simp only [e1]
        rfl
      · show fFin _ (i + 1) (5 - (i + 1)) = R
        rw [show 5 - (i + 1) = m by omega]
        exact hR
    · have hi : i = 5 := by omega
      subst hi
      rw [Nat.sub_self, fFin] at hR
      refine Nt_range_end (i := 1) rm' rfl (by simp) ⟨_, rfl, ?_⟩
      refine Exs_nil ?_
      refine Exs_cons ?_
      refine Ex_return ?_
      repeat walk_at "ev"
      refine Ev_call ?_
      refine Ev_builtin (v := .bi "sorted") tq.sorted tq.ng tq.nb (fun _ => rfl) ?_
      refine ⟨_, rfl, ?_⟩
      repeat walk_at "ev"
      have hmem : ∀ x ∈ ws, ∃ (j : Nat) (r w : Int) (z : Str), x = ([r, w, (j : Int)], [V.str z]) := fun x hx => by
        obtain ⟨j, hj, e⟩ := List.getElem_of_mem hx
        obtain ⟨r, w, z, hz⟩ := hwk j x (by rw [List.getElem?_eq_getElem hj, e])
        exact ⟨j, r, w, z, hz⟩
      refine ⟨.inl ⟨_, rfl⟩, Call.swap (Call_sorted (i := 2) (m := 3) rfl (by omega) (by omega) (by omega) (fun x hx => ?_) ?_ (fun x hx v hv => ?_) fun b ys hp hs => ⟨_, _, rfl, ?_⟩)⟩
      · obtain ⟨j, r, w, z, rfl⟩ := hmem x hx; rfl
      · rw [List.nodup_iff_pairwise_ne, List.pairwise_map, List.pairwise_iff_getElem]
        intro p q hp hq hpq e
        obtain ⟨r1, w1, z1, e1⟩ := hwk p _ (List.getElem?_eq_getElem hp)
        obtain ⟨r2, w2, z2, e2⟩ := hwk q _ (List.getElem?_eq_getElem hq)
        rw [e1, e2] at e
        simp at e
        omega
      · obtain ⟨j, r, w, z, rfl⟩ := hmem x hx
        simp at hv
        exact .inr ⟨z, hv⟩
      · repeat walk_at "ev"
        refine ⟨by simp, ?_⟩
        refine ⟨[(b, .list (ys.map tupK)), (X, .list (sV texts)), (F, .list (iV figs))], ?_, ?_⟩
        · exact List.Sublist.cons_cons _ (List.Sublist.cons _ (List.Sublist.cons _ (List.Sublist.cons _ (List.Sublist.cons_cons _ (List.Sublist.cons _ (List.Sublist.refl _))))))
        · have := h X b ys (by rw [← hR]; exact hp) hs
          rw [← hR] at this
          exact this
end
section
open PySem PySem.Spec PySem.Calls PyProof.Rows PySem.P
noncomputable def pairV (n i : Int) : V := .tup [.int n, .int i]
noncomputable def ltP : V → V → Bool
  | .tup [.int a, .int b], .tup [.int c, .int d] => lexB [a, b] [c, d]
  | _, _ => false
noncomputable def IsP (v : V) : Prop := ∃ n i, v = pairV n i
theorem ltP_ok (T : TI) : ∀ v w, IsP v → IsP w → LtOk T v w (ltP v w) := by
  rintro _ _ ⟨n, i, rfl⟩ ⟨m, j, rfl⟩ A k C K rm hK
  exact O_ltT rm hK
/-- what a lexer tells, word for word, until its text's end -/
inductive Strm (i : Nat) (nf : Int) : Int → List Nat → List KT → Prop
  | fin {n : Int} {r : List Nat} {p : Int} (h : lexT n r = ([], nf, [])) : Strm i nf n r [([n, (i : Int), p], [.str (S [])])]
  | cons {n n' : Int} {r r' w : List Nat} {p : Int} {ks : List KT} (h : lexT n r = (w, n', r')) (hw : w ≠ []) (t : Strm i nf n' r' ks) : Strm i nf n r (([n, (i : Int), p], [.str (S w)]) :: ks)
noncomputable def toldV : KT → V
  | ([a, b, _], [w]) => .tup [.tup [.int a, .int b], w]
  | _ => .none
noncomputable def shp (y : KT) : Prop := ∃ r w p z, y = ([r, w, p], [V.str z])
noncomputable def endN (t : List Nat) : Int := 1 + (t.count 10 : Nat)
/-- what the law builds -/
structure Prs (texts : List (List Nat)) (ys : List KT) : Prop where
  len : texts.length = 5
  size : ∀ t ∈ texts, t.length ≤ 100000
  shape : ∀ y ∈ ys, shp y
  sorted : ys.Pairwise (fun x y => lexB x.1 y.1 = true)
  n17 : ys.length = 17
  strm : ∃ pend : List (List KT), pend.length = 5 ∧ pend.flatten.Perm ys ∧ ∀ i, i < 5 → Strm i (endN (texts.getD i [])) 1 (texts.getD i []) (pend.getD i []) ∧ (pend.getD i []).Pairwise (fun x y => lexB x.1 y.1 = true)
end
section
open PySem PySem.Spec PySem.Calls PyProof.Rows PySem.P
/-! the heap, without a program -/
noncomputable def gv (ws : List V) (i : Nat) : V := ws.getD i .none
theorem gv_set {ws : List V} {p : Nat} (v : V) (i : Nat) (hp : p < ws.length) : gv (ws.set p v) i = if i = p then v else gv ws i := by
  unfold gv
  rw [List.getD_eq_getElem?_getD, List.getD_eq_getElem?_getD, List.getElem?_set]
  by_cases h : p = i
  · subst h; simp [hp]
  · have h' : ¬ i = p := fun e => h e.symm
    simp [h, h']
theorem gv_mem {ws : List V} {i : Nat} (h : i < ws.length) : gv ws i ∈ ws := getD_mem h
structure LO (lt : V → V → Bool) (S : V → Prop) : Prop where
  asym : ∀ a b, S a → S b → lt a b = true → lt b a = false
  letr : ∀ a b c, S a → S b → S c → lt b a = false → lt c b = false → lt c a = false
inductive Dsc (k : Nat) : Nat → Prop
  | refl : Dsc k k
  | l {p : Nat} (h : Dsc k p) : Dsc k (2 * p + 1)
  | r {p : Nat} (h : Dsc k p) : Dsc k (2 * p + 2)
theorem Dsc.ge {k p : Nat} (h : Dsc k p) : k ≤ p := by
  induction h with
  | refl => omega
  | l _ ih => omega
  | r _ ih => omega
theorem Dsc.par {k p : Nat} (h : Dsc k p) (hp : k < p) : Dsc k ((p - 1) / 2) := by
  cases h with
  | refl => omega
  | @l p h =>
    have e : (2 * p + 1 - 1) / 2 = p := by omega
    rw [e]; exact h
  | @r p h =>
    have e : (2 * p + 2 - 1) / 2 = p := by omega
    rw [e]; exact h
noncomputable def HP (lt : V → V → Bool) (k : Nat) (ws : List V) : Prop := ∀ c, 0 < c → c < ws.length → k ≤ (c - 1) / 2 → lt (gv ws c) (gv ws ((c - 1) / 2)) = false
/-- heap but for a hole at p -/
structure HH (lt : V → V → Bool) (k p : Nat) (ws : List V) : Prop where
  p1 : ∀ c, 0 < c → c < ws.length → k ≤ (c - 1) / 2 → c ≠ p → (c - 1) / 2 ≠ p → lt (gv ws c) (gv ws ((c - 1) / 2)) = false
  p2 : ∀ c, 0 < c → c < ws.length → (c - 1) / 2 = p → k < p → lt (gv ws c) (gv ws ((p - 1) / 2)) = false
theorem perm_swap_set {ws : List V} {p q : Nat} (x : V) (hp : p < ws.length) (hq : q < ws.length) (hne : p ≠ q) : ((ws.set p (gv ws q)).set q x).Perm (ws.set p x) := by
  classical
  rw [List.perm_iff_count]
  intro b
  have hq' : q < (ws.set p (gv ws q)).length := by simpa using hq
  rw [List.count_set hq', List.count_set hp, List.count_set hp]
  have e : (ws.set p (gv ws q))[q]'hq' = gv ws q := by
    have e1 : gv ws q = ws[q] := by
      unfold gv
      rw [List.getD_eq_getElem?_getD, List.getElem?_eq_getElem hq]; rfl
    rw [List.getElem_set_ne hne, ← e1]
  rw [e]
  omega
theorem set_self {ws : List V} {p : Nat} (hp : p < ws.length) : ws.set p (gv ws p) = ws := by
  apply List.ext_getElem
  · simp
  · intro i h1 h2
    rw [List.getElem_set]
    split
    · rename_i e; subst e
      unfold gv
      rw [List.getD_eq_getElem?_getD, List.getElem?_eq_getElem hp]; rfl
    · rfl
variable {lt : V → V → Bool} {S : V → Prop}
theorem par_lt {c : Nat} (h : 0 < c) : (c - 1) / 2 < c := by omega
theorem par1 (p : Nat) : (2 * p + 1 - 1) / 2 = p := by omega
theorem par2 (p : Nat) : (2 * p + 2 - 1) / 2 = p := by omega
theorem par_or {c p : Nat} (h : 0 < c) (e : (c - 1) / 2 = p) : c = 2 * p + 1 ∨ c = 2 * p + 2 := by omega
theorem lt1 (p : Nat) : p < 2 * p + 1 := by omega
theorem lt2 (p : Nat) : p < 2 * p + 2 := by omega
theorem fall {n p q m : Nat} (h : n - p ≤ m + 1) (hpq : p < q) (hp : p < n) : n - q ≤ m := by omega
theorem upgo_step (L : LO lt S) {k p ch o : Nat} {ws : List V} (hp : p < ws.length) (hS : ∀ v ∈ ws, S v) (hd : Dsc k p) (hh : HH lt k p ws) (hcp : (ch - 1) / 2 = p) (hpc : p < ch) (ho : ∀ c, 0 < c → (c - 1) / 2 = p → c ≠ ch → c = o) (hch : ch < ws.length) (hle : o < ws.length → lt (gv ws o) (gv ws ch) = false) :
    (∀ v ∈ ws.set p (gv ws ch), S v) ∧ HH lt k ch (ws.set p (gv ws ch)) ∧ ∀ x, ((ws.set p (gv ws ch)).set ch x).Perm (ws.set p x) := by
  have hch0 : 0 < ch := Nat.lt_of_le_of_lt (Nat.zero_le _) hpc
  refine ⟨fun v hv => ?_, ⟨fun c hc hcl hck hcc hcp' => ?_, fun c hc hcl hcp' hk => ?_⟩, fun x => perm_swap_set x hp hch (Nat.ne_of_lt hpc)⟩
  · rcases List.mem_or_eq_of_mem_set hv with hv | rfl
    · exact hS v hv
    · exact hS _ (gv_mem hch)
  · rw [List.length_set] at hcl
    rw [gv_set _ _ hp, gv_set _ _ hp]
    by_cases h1 : c = p
    · subst h1
      rw [if_pos rfl, if_neg (Nat.ne_of_lt (par_lt hc))]
      exact hh.p2 ch hch0 hch hcp (Nat.lt_of_le_of_lt hck (par_lt hc))
    · rw [if_neg h1]
      by_cases h2 : (c - 1) / 2 = p
      · rw [if_pos h2]
        have := ho c hc h2 hcc
        subst this
        exact hle hcl
      · rw [if_neg h2]
        exact hh.p1 c hc hcl hck h1 h2
  · rw [List.length_set] at hcl
    rw [gv_set _ _ hp, gv_set _ _ hp]
    have hcc : ch < c := hcp' ▸ par_lt hc
    have h1 : ¬ c = p := Nat.ne_of_gt (Nat.lt_trans hpc hcc)
    rw [if_neg h1, if_pos hcp]
    have := hh.p1 c hc hcl (hcp' ▸ Nat.le_of_lt hk) h1 (hcp' ▸ Nat.ne_of_gt hpc)
    rw [hcp'] at this
    exact this
theorem upgo_ok (L : LO lt S) {k : Nat} : ∀ (m p : Nat) (ws : List V), ws.length - p ≤ m → p < ws.length → (∀ v ∈ ws, S v) → Dsc k p → HH lt k p ws →
    (upgo lt p ws).1 < ws.length ∧ (upgo lt p ws).2.length = ws.length ∧ (∀ v ∈ (upgo lt p ws).2, S v) ∧ Dsc k (upgo lt p ws).1 ∧ HH lt k (upgo lt p ws).1 (upgo lt p ws).2 ∧ ¬ 2 * (upgo lt p ws).1 + 1 < ws.length ∧ ∀ x, ((upgo lt p ws).2.set (upgo lt p ws).1 x).Perm (ws.set p x)
  | 0, p, ws, hm, hp, _, _, _ => absurd (Nat.sub_eq_zero_iff_le.mp (Nat.le_zero.mp hm)) (Nat.not_le_of_lt hp)
  | m + 1, p, ws, hm, hp, hS, hd, hh => by
    rw [upgo]
    split
    · rename_i h1
      split
      · rename_i h2
        obtain ⟨s1, s2, s4⟩ := upgo_step L (ch := 2 * p + 2) (o := 2 * p + 1) hp hS hd hh (par2 p) (lt2 p) (fun c hc e hne => (par_or hc e).resolve_right hne) h2.1 (fun _ => h2.2)
        have ih := upgo_ok L m (2 * p + 2) (ws.set p (gv ws (2 * p + 2))) (by rw [List.length_set]; exact fall hm (lt2 p) hp) (by rw [List.length_set]; exact h2.1) s1 (.r hd) s2
        simp only [List.length_set] at ih
        obtain ⟨i1, i2, i3, i4, i5, i6, i7⟩ := ih
        exact ⟨i1, i2, i3, i4, i5, i6, fun x => (i7 x).trans (s4 x)⟩
      · rename_i h2
        obtain ⟨s1, s2, s4⟩ := upgo_step L (ch := 2 * p + 1) (o := 2 * p + 2) hp hS hd hh (par1 p) (lt1 p) (fun c hc e hne => (par_or hc e).resolve_left hne) h1 (fun ho => by
          have : lt (gv ws (2 * p + 1)) (gv ws (2 * p + 2)) ≠ false := fun e => h2 ⟨ho, e⟩
          exact L.asym _ _ (hS _ (gv_mem h1)) (hS _ (gv_mem ho)) (Bool.not_eq_false _ ▸ this))
        have ih := upgo_ok L m (2 * p + 1) (ws.set p (gv ws (2 * p + 1))) (by rw [List.length_set]; exact fall hm (lt1 p) hp) (by rw [List.length_set]; exact h1) s1 (.l hd) s2
        simp only [List.length_set] at ih
        obtain ⟨i1, i2, i3, i4, i5, i6, i7⟩ := ih
        exact ⟨i1, i2, i3, i4, i5, i6, fun x => (i7 x).trans (s4 x)⟩
    · rename_i h1
      exact ⟨hp, rfl, hS, hd, hh, h1, fun x => .refl _⟩
theorem siftdn_ok (L : LO lt S) {k : Nat} {x : V} (hx : S x) : ∀ (m p : Nat) (ws : List V), p ≤ m → p < ws.length → (∀ v ∈ ws, S v) → Dsc k p → HH lt k p ws → (∀ c, 0 < c → c < ws.length → (c - 1) / 2 = p → lt (gv ws c) x = false) →
    HP lt k (siftdn lt k x p ws) ∧ (siftdn lt k x p ws).Perm (ws.set p x) := by
  have fin : ∀ (p : Nat) (ws : List V), p < ws.length → HH lt k p ws → (∀ c, 0 < c → c < ws.length → (c - 1) / 2 = p → lt (gv ws c) x = false) → (k < p → lt x (gv ws ((p - 1) / 2)) = false) → HP lt k (ws.set p x) := by
    intro p ws hp hh h2 h3 c hc hcl hck
    rw [List.length_set] at hcl
    rw [gv_set _ _ hp, gv_set _ _ hp]
    by_cases e1 : c = p
    · subst e1
      rw [if_pos rfl, if_neg (Nat.ne_of_lt (par_lt hc))]
      exact h3 (Nat.lt_of_le_of_lt hck (par_lt hc))
    · rw [if_neg e1]
      by_cases e2 : (c - 1) / 2 = p
      · rw [if_pos e2]; exact h2 c hc hcl e2
      · rw [if_neg e2]; exact hh.p1 c hc hcl hck e1 e2
  intro m
  induction m with
  | zero =>
    intro p ws hm hp hS hd hh h2
    have hk : ¬ k < p := fun h => Nat.not_lt_zero _ (Nat.lt_of_lt_of_le h hm)
    rw [siftdn, if_neg hk]
    exact ⟨fin p ws hp hh h2 fun h => absurd h hk, .refl _⟩
  | succ m ih =>
    intro p ws hm hp hS hd hh h2
    rw [siftdn]
    split
    · rename_i hkp
      have hp0 : 0 < p := Nat.lt_of_le_of_lt (Nat.zero_le _) hkp
      have hd' := hd.par hkp
      have hk' := hd'.ge
      have hlt0 := par_lt hp0
      have hpp : (p - 1) / 2 < ws.length := Nat.lt_trans hlt0 hp
      have hne : p ≠ (p - 1) / 2 := Nat.ne_of_gt hlt0
      split
      · rename_i hlt
        have hlt' : lt x (gv ws ((p - 1) / 2)) = true := hlt
        have hup := L.asym _ _ hx (hS _ (gv_mem hpp)) hlt'
        have := ih ((p - 1) / 2) (ws.set p (gv ws ((p - 1) / 2))) (Nat.le_of_lt_succ (Nat.lt_of_lt_of_le hlt0 hm)) (by rw [List.length_set]; exact hpp) (fun v hv => by
          rcases List.mem_or_eq_of_mem_set hv with hv | rfl
          · exact hS v hv
          · exact hS _ (gv_mem hpp)) hd' ⟨fun c hc hcl hck hcc hcp => ?_, fun c hc hcl hcp hk => ?_⟩ (fun c hc hcl hcp => ?_)
        · exact ⟨this.1, this.2.trans (perm_swap_set x hp hpp hne)⟩
        · rw [List.length_set] at hcl
          rw [gv_set _ _ hp, gv_set _ _ hp]
          have e1 : ¬ c = p := fun e => hcp (by rw [e])
          rw [if_neg e1]
          by_cases e2 : (c - 1) / 2 = p
          · rw [if_pos e2]; exact hh.p2 c hc hcl e2 hkp
          · rw [if_neg e2]; exact hh.p1 c hc hcl hck e1 e2
        · rw [List.length_set] at hcl
          rw [gv_set _ _ hp, gv_set _ _ hp]
          have h00 : 0 < (p - 1) / 2 := Nat.lt_of_le_of_lt (Nat.zero_le _) hk
          have hlt1 := par_lt h00
          rw [if_neg (Nat.ne_of_lt (Nat.lt_trans hlt1 hlt0))]
          have up : lt (gv ws ((p - 1) / 2)) (gv ws (((p - 1) / 2 - 1) / 2)) = false := hh.p1 ((p - 1) / 2) h00 hpp (hd'.par hk).ge (Ne.symm hne) (Nat.ne_of_lt (Nat.lt_trans hlt1 hlt0))
          by_cases e1 : c = p
          · rw [if_pos e1]; exact up
          · rw [if_neg e1]
            have := hh.p1 c hc hcl (hcp ▸ hk') e1 (hcp ▸ Ne.symm hne)
            rw [hcp] at this
            exact L.letr _ _ _ (hS _ (gv_mem (Nat.lt_trans hlt1 hpp))) (hS _ (gv_mem hpp)) (hS _ (gv_mem hcl)) up this
        · rw [List.length_set] at hcl
          rw [gv_set _ _ hp]
          by_cases e1 : c = p
          · rw [if_pos e1]; exact hup
          · rw [if_neg e1]
            have := hh.p1 c hc hcl (hcp ▸ hk') e1 (hcp ▸ Ne.symm hne)
            rw [hcp] at this
            exact L.letr _ _ _ hx (hS _ (gv_mem hpp)) (hS _ (gv_mem hcl)) hup this
      · rename_i hlt
        exact ⟨fin p ws hp hh h2 (fun _ => Bool.not_eq_true _ ▸ hlt), .refl _⟩
    · rename_i hk
      exact ⟨fin p ws hp hh h2 fun h => absurd h hk, .refl _⟩
theorem siftup_ok (L : LO lt S) {k : Nat} {ws : List V} (hk : k < ws.length) (hS : ∀ v ∈ ws, S v) (h : HP lt (k + 1) ws) : HP lt k (siftup lt k ws) ∧ (siftup lt k ws).Perm ws := by
  have hx : S (gv ws k) := hS _ (gv_mem hk)
  obtain ⟨u1, u2, u3, u4, u5, u6, u7⟩ := upgo_ok L (k := k) _ k ws (Nat.le_refl _) hk hS .refl ⟨fun c hc hcl hck _ hcp => h c hc hcl (by omega), fun c _ _ _ hk => by omega⟩
  have u1' : (upgo lt k ws).1 < (upgo lt k ws).2.length := by omega
  have key := siftdn_ok L (k := k) hx _ (upgo lt k ws).1 ((upgo lt k ws).2.set (upgo lt k ws).1 (gv ws k)) (Nat.le_refl _) (by simpa using u1') (fun v hv => by
    rcases List.mem_or_eq_of_mem_set hv with hv | rfl
    · exact u3 v hv
    · exact hx) u4 ⟨fun c hc hcl hck hcc hcp => by
      rw [List.length_set] at hcl
      rw [gv_set _ _ u1', gv_set _ _ u1', if_neg hcc, if_neg hcp]
      exact u5.p1 c hc hcl hck hcc hcp, fun c hc hcl hcp _ => by rw [List.length_set] at hcl; omega⟩ (fun c hc hcl hcp => by rw [List.length_set] at hcl; omega)
  refine ⟨key.1, key.2.trans ?_⟩
  rw [List.set_set]
  refine (u7 _).trans ?_
  rw [set_self hk]
theorem heapGo_ok (L : LO lt S) : ∀ (k : Nat) (ws : List V), k ≤ ws.length → (∀ v ∈ ws, S v) → HP lt k ws → HP lt 0 (heapGo lt k ws) ∧ (heapGo lt k ws).Perm ws
  | 0, ws, _, _, h => ⟨h, .refl _⟩
  | k + 1, ws, hk, hS, h => by
    obtain ⟨s1, s2⟩ := siftup_ok L (show k < ws.length by omega) hS h
    obtain ⟨i1, i2⟩ := heapGo_ok L k (siftup lt k ws) (by rw [s2.length_eq]; omega) (fun v hv => hS v (s2.mem_iff.mp hv)) s1
    exact ⟨i1, i2.trans s2⟩
theorem heapify_ok (L : LO lt S) {ws : List V} (hS : ∀ v ∈ ws, S v) : HP lt 0 (heapGo lt (ws.length / 2) ws) ∧ (heapGo lt (ws.length / 2) ws).Perm ws :=
  heapGo_ok L _ ws (by omega) hS fun c hc hcl hck => by omega
theorem root_min (L : LO lt S) {ws : List V} (hS : ∀ v ∈ ws, S v) (h : HP lt 0 ws) (hirr : ∀ v, S v → lt v v = false) : ∀ i, i < ws.length → lt (gv ws i) (gv ws 0) = false := by
  intro i
  induction i using Nat.strongRecOn with
  | ind i ih =>
    intro hi
    by_cases h0 : i = 0
    · subst h0; exact hirr _ (hS _ (gv_mem hi))
    · have := ih ((i - 1) / 2) (by omega) (by omega)
      exact L.letr _ _ _ (hS _ (gv_mem (by omega))) (hS _ (gv_mem (by omega))) (hS _ (gv_mem hi)) this (h i (by omega) hi (by omega))
theorem root_min' (L : LO lt S) {x : V} {ws : List V} (hS : ∀ v ∈ x :: ws, S v) (h : HP lt 0 (x :: ws)) (hirr : ∀ v, S v → lt v v = false) : ∀ v ∈ x :: ws, lt v x = false := by
  intro v hv
  obtain ⟨i, hi, e⟩ := List.getElem_of_mem hv
  have := root_min L hS h hirr i hi
  have e' : gv (x :: ws) i = v := by
    unfold gv; rw [List.getD_eq_getElem?_getD, List.getElem?_eq_getElem hi, e]; rfl
  rw [e'] at this
  exact this
theorem replace_ok (L : LO lt S) {x y : V} {ws : List V} (hS : ∀ v ∈ x :: ws, S v) (hy : S y) (h : HP lt 0 (x :: ws)) : HP lt 0 (siftup lt 0 (y :: ws)) ∧ (siftup lt 0 (y :: ws)).Perm (y :: ws) := by
  refine siftup_ok L (by simp) (fun v hv => ?_) fun c hc hcl hck => ?_
  · rcases List.mem_cons.mp hv with rfl | hv
    · exact hy
    · exact hS v (.tail _ hv)
  · obtain ⟨c, rfl⟩ : ∃ c', c = c' + 1 := ⟨c - 1, by omega⟩
    obtain ⟨d, hd⟩ : ∃ d, (c + 1 - 1) / 2 = d + 1 := ⟨(c + 1 - 1) / 2 - 1, by omega⟩
    have := h (c + 1) hc hcl (by omega)
    rw [hd] at this ⊢
    exact this
theorem pop_ok (L : LO lt S) {last : V} {vs : List V} (hS : ∀ v ∈ vs ++ [last], S v) (h : HP lt 0 (vs ++ [last])) : HP lt 0 (popH lt vs last).2 ∧ ((popH lt vs last).1 :: (popH lt vs last).2).Perm (vs ++ [last]) ∧ some (popH lt vs last).1 = (vs ++ [last])[0]? := by
  cases vs with
  | nil => exact ⟨fun c _ hc _ => by simp [popH] at hc, .refl _, rfl⟩
  | cons v0 r =>
    have := siftup_ok L (lt := lt) (S := S) (k := 0) (ws := last :: r) (by simp) (fun v hv => by
      rcases List.mem_cons.mp hv with rfl | hv
      · exact hS v (by simp)
      · exact hS v (by simp [hv])) (fun c hc hcl hck => by
      obtain ⟨c, rfl⟩ : ∃ c', c = c' + 1 := ⟨c - 1, by omega⟩
      obtain ⟨d, hd⟩ : ∃ d, (c + 1 - 1) / 2 = d + 1 := ⟨(c + 1 - 1) / 2 - 1, by omega⟩
      have hcl' : c < r.length := by simpa using hcl
      have := h (c + 1) hc (by simp; omega) (by omega)
      rw [hd] at this ⊢
      have e : ∀ i, i < r.length → gv (v0 :: r ++ [last]) (i + 1) = gv (last :: r) (i + 1) := fun i hi => by
        unfold gv
        simp only [List.getD_eq_getElem?_getD, List.cons_append, List.getElem?_cons_succ]
        rw [List.getElem?_append_left hi]
      rw [e c hcl', e d (by omega)] at this
      exact this)
    refine ⟨this.1, ?_, rfl⟩
    refine (this.2.cons v0).trans ?_
    exact (List.Perm.cons v0 (List.perm_append_comm (l₁ := [last]) (l₂ := r)))
end
section
open PySem PySem.Spec PySem.Calls PyProof.Rows PySem.P
theorem lexB2 (a b c d : Int) : lexB [a, b] [c, d] = decide (a < c ∨ (a = c ∧ b < d)) := by
  unfold lexB
  split
  · rename_i h; subst h
    unfold lexB
    split
    · rename_i h; subst h
      simp [lexB]
    · simp
  · rename_i h; simp [h]
theorem lexB3 (a b p c d q : Int) : lexB [a, b, p] [c, d, q] = decide (a < c ∨ (a = c ∧ (b < d ∨ (b = d ∧ p < q)))) := by
  rw [lexB]
  split
  · rename_i h; subst h
    rw [lexB2]; simp
  · rename_i h; simp [h]
theorem LO_P : LO ltP IsP := by
  refine ⟨?_, ?_⟩
  · rintro _ _ ⟨a, b, rfl⟩ ⟨c, d, rfl⟩ h
    exact lexB_asym h
  · rintro _ _ _ ⟨a, b, rfl⟩ ⟨c, d, rfl⟩ ⟨e, f, rfl⟩ h1 h2
    have h1' : lexB [c, d] [a, b] = false := h1
    have h2' : lexB [e, f] [c, d] = false := h2
    show lexB [e, f] [a, b] = false
    rw [lexB2] at h1' h2' ⊢
    simp only [decide_eq_false_iff_not] at h1' h2' ⊢
    omega
theorem irr_P : ∀ v, IsP v → ltP v v = false := by
  rintro _ ⟨a, b, rfl⟩
  exact lexB_irr _
/-! the lexer never goes back -/
theorem lexQ_len : ∀ (k : Nat) (tok : List Nat) (n : Int) (r : List Nat), r.length ≤ k → (lexQ tok n r).2.2.length ≤ r.length
  | 0, tok, n, r, h => by
    have : r = [] := List.length_eq_zero_iff.mp (by omega)
    subst this; rw [lexQ_nil]; simp
  | k + 1, tok, n, [], h => by rw [lexQ_nil]; simp
  | k + 1, tok, n, c :: r, h => by
    rw [lexQ_cons]
    simp only [List.length_cons] at h
    split
    · simp
    · split
      · cases r with
        | nil => simp
        | cons e r' =>
          have := lexQ_len k (tok ++ [e]) (n + nl e) r' (by simp at h; omega)
          simp only [List.length_cons]; omega
      · have := lexQ_len k (tok ++ [c]) (n + nl c) r (by omega)
        simp only [List.length_cons]; omega
theorem lexW_len : ∀ (k : Nat) (tok : List Nat) (n : Int) (r : List Nat), r.length ≤ k → (lexW tok n r).2.2.length ≤ r.length
  | 0, tok, n, r, h => by
    have : r = [] := List.length_eq_zero_iff.mp (by omega)
    subst this; rw [lexW_nil]; simp
  | k + 1, tok, n, [], h => by rw [lexW_nil]; simp
  | k + 1, tok, n, c :: r, h => by
    rw [lexW_cons]
    simp only [List.length_cons] at h
    split
    · simp
    · split
      · cases r with
        | nil => simp
        | cons e r' =>
          have := lexW_len k (tok ++ [e]) (n + nl e) r' (by simp at h; omega)
          simp only [List.length_cons]; omega
      · have := lexW_len k (tok ++ [c]) (n + nl c) r (by omega)
        simp only [List.length_cons]; omega
theorem lexT_len : ∀ (n : Int) (r : List Nat), (lexT n r).2.2.length ≤ r.length
  | n, [] => by simp [lexT]
  | n, c :: r => by
    rw [lexT_cons]
    simp only [List.length_cons]
    split
    · have := lexT_len (n + nl c) r; omega
    · split
      · have := lexQ_len _ [] n r (Nat.le_refl _); omega
      · split
        · cases r with
          | nil => simp
          | cons e r' =>
            have := lexW_len _ [e] (n + nl e) r' (Nat.le_refl _)
            simp only [List.length_cons]; omega
        · have := lexW_len _ [c] (n + nl c) r (Nat.le_refl _); omega
noncomputable def stN (st : List (Int × List Nat)) (i : Nat) : Int × List Nat := st.getD i (0, [])
noncomputable def prs (st : List (Int × List Nat)) (i : Nat) : V := pairV (stN st i).1 i
structure LIx (texts : List (List Nat)) (ys : List KT) (st : List (Int × List Nat)) (heap : List V) (done : List KT) (pend : List (List KT)) (rest : List KT) (al : List Nat) : Prop where
  tx : texts.length = 5
  n17 : ys.length = 17
  sorted : ys.Pairwise (fun x y => lexB x.1 y.1 = true)
  pl : pend.length = 5
  sl : st.length = 5
  str : ∀ i, i < 5 → (pend.getD i [] = [] ∧ (stN st i).1 = endN (texts.getD i [])) ∨ (Strm i (endN (texts.getD i [])) (stN st i).1 (stN st i).2 (pend.getD i []))
  srt : ∀ i, i < 5 → (pend.getD i []).Pairwise (fun x y => lexB x.1 y.1 = true)
  siz : ∀ i, i < 5 → (stN st i).2.length ≤ 100000
  alive : ∀ i, i ∈ al ↔ i < 5 ∧ pend.getD i [] ≠ []
  nod : al.Nodup
  heapP : heap.Perm (al.map (prs st))
  hp : HP ltP 0 heap
  ysE : ys = done ++ rest
  restE : pend.flatten.Perm rest
noncomputable def LI (texts : List (List Nat)) (ys : List KT) (st : List (Int × List Nat)) (heap : List V) (done : List KT) : Prop := ∃ pend rest al, LIx texts ys st heap done pend rest al
theorem Strm.head {i : Nat} {nf n : Int} {r : List Nat} {ks : List KT} (h : Strm i nf n r ks) : ∃ p ks', ks = ([n, (i : Int), p], [.str (S (lexT n r).1)]) :: ks' ∧
    (((lexT n r).1 = [] ∧ ks' = [] ∧ (lexT n r).2.1 = nf) ∨ ((lexT n r).1 ≠ [] ∧ Strm i nf (lexT n r).2.1 (lexT n r).2.2 ks')) := by
  cases h with
  | fin h => exact ⟨_, _, by rw [h], .inl ⟨by rw [h], rfl, by rw [h]⟩⟩
  | cons h hw t => exact ⟨_, _, by rw [h], .inr ⟨by rw [h]; exact hw, by rw [h]; exact t⟩⟩
theorem all_pairs {st : List (Int × List Nat)} {al : List Nat} : ∀ v ∈ al.map (prs st), IsP v := fun v hv => by
  obtain ⟨i, _, rfl⟩ := List.mem_map.mp hv
  exact ⟨_, _, rfl⟩
theorem nodup_len : ∀ (n : Nat) (l : List Nat), l.Nodup → (∀ x ∈ l, x < n) → l.length ≤ n
  | 0, l, _, h => by
    cases l with
    | nil => simp
    | cons a l => have := h a (.head _); omega
  | n + 1, l, hd, h => by
    by_cases hn : n ∈ l
    · have e := (List.perm_cons_erase hn).length_eq
      have := nodup_len n (l.erase n) (hd.erase n) fun x hx => by
        have h1 := (hd.mem_erase_iff).mp hx
        have := h x h1.2
        have := h1.1
        omega
      rw [e, List.length_cons]; omega
    · have := nodup_len n l hd fun x hx => by
        have h1 := h x hx
        have : x ≠ n := fun e => hn (e ▸ hx)
        omega
      omega
theorem LI_S {texts : List (List Nat)} {ys : List KT} {st : List (Int × List Nat)} {heap : List V} {done : List KT} (h : LI texts ys st heap done) : (∀ v ∈ heap, IsP v) ∧ heap.length ≤ 5 ∧ st.length = 5 := by
  obtain ⟨pend, rest, al, x⟩ := h
  refine ⟨fun v hv => all_pairs v (x.heapP.mem_iff.mp hv), ?_, x.sl⟩
  rw [x.heapP.length_eq, List.length_map]
  exact nodup_len 5 al x.nod fun i hi => ((x.alive i).mp hi).1
theorem LI_end {texts : List (List Nat)} {ys : List KT} {st : List (Int × List Nat)} {heap : List V} {done : List KT} (h : LI texts ys st heap done) (hn : done.length = 17) : heap = [] ∧ done = ys ∧ st.map (·.1) = texts.map endN := by
  obtain ⟨pend, rest, al, x⟩ := h
  have hr : rest = [] := by
    have := congrArg List.length x.ysE
    rw [List.length_append, x.n17, hn] at this
    exact List.length_eq_zero_iff.mp (by omega)
  have hfl : pend.flatten = [] := by
    have := x.restE; rw [hr] at this; exact this.eq_nil
  have hp : ∀ i, i < 5 → pend.getD i [] = [] := fun i hi => by
    have hi' : i < pend.length := by rw [x.pl]; exact hi
    have : pend[i] ∈ pend := List.getElem_mem hi'
    rw [List.getD_eq_getElem?_getD, List.getElem?_eq_getElem hi']
    exact List.flatten_eq_nil_iff.mp hfl _ this
  have hal : al = [] := by
    cases al with
    | nil => rfl
    | cons i al =>
      have := (x.alive i).mp (.head _)
      exact absurd (hp i this.1) this.2
  refine ⟨?_, ?_, ?_⟩
  · have := x.heapP; rw [hal] at this; exact this.eq_nil
  · rw [x.ysE, hr, List.append_nil]
  · apply List.ext_getElem
    · simp [x.sl, x.tx]
    · intro i h1 h2
      have hi : i < 5 := by simpa [x.sl] using h1
      have hs : i < st.length := by rw [x.sl]; exact hi
      have ht : i < texts.length := by rw [x.tx]; exact hi
      rw [List.getElem_map, List.getElem_map]
      rcases x.str i hi with ⟨_, e⟩ | e
      · unfold stN at e
        rw [List.getD_eq_getElem?_getD, List.getElem?_eq_getElem hs, List.getD_eq_getElem?_getD, List.getElem?_eq_getElem ht] at e
        exact e
      · obtain ⟨p, ks, e1, _⟩ := e.head
        rw [hp i hi] at e1; cases e1
theorem flatten_set {α : Type} : ∀ {pend : List (List α)} {i : Nat} {y : α} {ks : List α}, pend[i]? = some (y :: ks) → pend.flatten.Perm (y :: (pend.set i ks).flatten)
  | [], i, y, ks, h => by simp at h
  | p :: pend, 0, y, ks, h => by
    have e : p = y :: ks := by simpa using h
    subst e
    simp
  | p :: pend, i + 1, y, ks, h => by
    have ih := flatten_set (pend := pend) (i := i) (by simpa using h)
    rw [List.flatten_cons]
    refine (ih.append_left p).trans ?_
    simp only [List.set_cons_succ, List.flatten_cons]
    exact List.perm_middle
theorem LI_start {texts : List (List Nat)} {ys : List KT} (h : Prs texts ys) : LI texts ys (texts.map fun t => (1, t)) (heapGo ltP 2 [pairV 1 4, pairV 1 3, pairV 1 2, pairV 1 1, pairV 1 0]) [] := by
  obtain ⟨pend, hpl, hpp, hps⟩ := h.strm
  have hst : ∀ i, i < 5 → stN (texts.map fun t => ((1 : Int), t)) i = (1, texts.getD i []) := fun i hi => by
    unfold stN
    rw [List.getD_eq_getElem?_getD, List.getElem?_map, List.getD_eq_getElem?_getD, List.getElem?_eq_getElem (by rw [h.len]; exact hi)]; rfl
  have hS : ∀ v ∈ [pairV 1 4, pairV 1 3, pairV 1 2, pairV 1 1, pairV 1 0], IsP v := by
    intro v hv
    simp only [List.mem_cons, List.not_mem_nil, or_false] at hv
    rcases hv with rfl | rfl | rfl | rfl | rfl <;> exact ⟨_, _, rfl⟩
  obtain ⟨h1, h2⟩ := heapify_ok LO_P hS
  refine ⟨pend, ys, [4, 3, 2, 1, 0], ⟨h.len, h.n17, h.sorted, hpl, by simp [h.len], fun i hi => .inr ?_, fun i hi => (hps i hi).2, fun i hi => ?_, fun i => ?_, by decide, ?_, h1, rfl, hpp⟩⟩
  · rw [hst i hi]; exact (hps i hi).1
  · rw [hst i hi]
    refine h.size _ ?_
    rw [List.getD_eq_getElem?_getD, List.getElem?_eq_getElem (by rw [h.len]; exact hi)]
    exact List.getElem_mem _
  · constructor
    · intro hi
      have hi5 : i < 5 := by simp at hi; omega
      refine ⟨hi5, fun e => ?_⟩
      obtain ⟨p, ks, e1, _⟩ := (hps i hi5).1.head
      rw [e] at e1; cases e1
    · rintro ⟨hi, _⟩
      have : i = 0 ∨ i = 1 ∨ i = 2 ∨ i = 3 ∨ i = 4 := by omega
      rcases this with rfl | rfl | rfl | rfl | rfl <;> simp
  · refine h2.trans ?_
    have e : ∀ i, i < 5 → prs (texts.map fun t => ((1 : Int), t)) i = pairV 1 i := fun i hi => by unfold prs; rw [hst i hi]
    simp only [List.map_cons, List.map_nil]
    rw [e 4 (by omega), e 3 (by omega), e 2 (by omega), e 1 (by omega), e 0 (by omega)]
    exact List.Perm.refl _
theorem LI_step {texts : List (List Nat)} {ys : List KT} {st : List (Int × List Nat)} {heap : List V} {done : List KT} (h : LI texts ys st heap done) (hn : done.length < 17) :
    ∃ (i : Nat) (n : Int) (r : List Nat) (p : Int) (tl : List V), i < 5 ∧ heap = pairV n i :: tl ∧ st[i]? = some (n, r) ∧ r.length ≤ 100000 ∧
      ((lexT n r).1 = [] → ∃ vs last, heap = vs ++ [last] ∧ (popH ltP vs last).1 = pairV n i ∧ LI texts ys (st.set i (lexT n r).2) (popH ltP vs last).2 (done ++ [([n, (i : Int), p], [.str (S [])])])) ∧
      ((lexT n r).1 ≠ [] → LI texts ys (st.set i (lexT n r).2) (siftup ltP 0 (pairV (lexT n r).2.1 i :: tl)) (done ++ [([n, (i : Int), p], [.str (S (lexT n r).1)])])) := by
  obtain ⟨hIP, _, _⟩ := LI_S h
  obtain ⟨pend, rest, al, x⟩ := h
  -- the least one
  obtain ⟨y, rest', rfl⟩ : ∃ y rest', rest = y :: rest' := by
    cases rest with
    | nil => have := congrArg List.length x.ysE; rw [List.append_nil, x.n17] at this; omega
    | cons y r => exact ⟨y, r, rfl⟩
  have hyf : y ∈ pend.flatten := x.restE.mem_iff.mpr (.head _)
  obtain ⟨pj, hpj, hyj⟩ := List.mem_flatten.mp hyf
  obtain ⟨j, hj, hje⟩ := List.getElem_of_mem hpj
  have hj5 : j < 5 := by rw [x.pl] at hj; exact hj
  have pgj : pend.getD j [] = pj := by rw [List.getD_eq_getElem?_getD, List.getElem?_eq_getElem hj]; exact hje
  have hjal : j ∈ al := (x.alive j).mpr ⟨hj5, by rw [pgj]; intro e; rw [e] at hyj; cases hyj⟩
  obtain ⟨v, tl, rfl⟩ : ∃ v tl, heap = v :: tl := by
    cases heap with
    | nil => have := x.heapP.symm.eq_nil; rw [List.map_eq_nil_iff] at this; rw [this] at hjal; cases hjal
    | cons v tl => exact ⟨v, tl, rfl⟩
  obtain ⟨i, hial, rfl⟩ := List.mem_map.mp (x.heapP.mem_iff.mp (.head _))
  obtain ⟨hi5, hine⟩ := (x.alive i).mp hial
  have hist : i < st.length := by rw [x.sl]; exact hi5
  have hipl : i < pend.length := by rw [x.pl]; exact hi5
  have hsti : st[i]? = some (stN st i) := by unfold stN; rw [List.getD_eq_getElem?_getD, List.getElem?_eq_getElem hist]; rfl
  have hpi : pend[i]? = some (pend.getD i []) := by rw [List.getD_eq_getElem?_getD, List.getElem?_eq_getElem hipl]; rfl
  have hstr : Strm i (endN (texts.getD i [])) (stN st i).1 (stN st i).2 (pend.getD i []) := by
    rcases x.str i hi5 with ⟨e, _⟩ | e
    · exact absurd e hine
    · exact e
  obtain ⟨p, ks, hks, hcase⟩ := hstr.head
  have hsri := x.srt i hi5
  rw [hks] at hpi hsri
  have hq := x.siz i hi5
  generalize hqq : stN st i = q at *
  obtain ⟨n, r⟩ := q
  dsimp only at hstr hks hcase hq hpi hsri ⊢
  -- it is the least word
  have hmin := root_min' LO_P hIP x.hp irr_P
  have hkt : (([n, (i : Int), p], [V.str (S (lexT n r).1)]) : KT) = y := by
    have hmem : (([n, (i : Int), p], [V.str (S (lexT n r).1)]) : KT) ∈ pend.flatten := List.mem_flatten.mpr ⟨_, List.mem_of_getElem? hpi, .head _⟩
    rcases List.mem_cons.mp (x.restE.mem_iff.mp hmem) with e | hr'
    · exact e
    exfalso
    have hs := x.sorted
    rw [x.ysE] at hs
    have hlt : lexB y.1 [n, (i : Int), p] = true := by
      have := (List.pairwise_append.mp hs).2.1
      exact (List.pairwise_cons.mp this).1 _ hr'
    by_cases hij : j = i
    · subst hij
      have : y ∈ pend.getD j [] := by rw [pgj]; exact hyj
      rw [hks] at this
      rcases List.mem_cons.mp this with e | hk
      · rw [e] at hlt; rw [lexB_irr] at hlt; cases hlt
      · have := (List.pairwise_cons.mp hsri).1 _ hk
        rw [lexB_asym this] at hlt; cases hlt
    · have hstj : Strm j (endN (texts.getD j [])) (stN st j).1 (stN st j).2 (pend.getD j []) := by
        rcases x.str j hj5 with ⟨e, _⟩ | e
        · rw [pgj] at e; rw [e] at hyj; cases hyj
        · exact e
      obtain ⟨pj', kj, hkj, _⟩ := hstj.head
      have hsrj := x.srt j hj5
      have hyj' : y ∈ pend.getD j [] := by rw [pgj]; exact hyj
      rw [hkj] at hsrj hyj'
      have hlt2 : lexB [(stN st j).1, (j : Int), pj'] [n, (i : Int), p] = true := by
        rcases List.mem_cons.mp hyj' with e | hk
        · rw [e] at hlt; exact hlt
        · exact lexB_trans ((List.pairwise_cons.mp hsrj).1 _ hk) hlt
      have hm := hmin (prs st j) (x.heapP.mem_iff.mpr (List.mem_map.mpr ⟨j, hjal, rfl⟩))
      have hm' : lexB [(stN st j).1, (j : Int)] [n, (i : Int)] = false := by
        have e : prs st i = pairV n i := by unfold prs; rw [hqq]
        rw [e] at hm; exact hm
      rw [lexB2] at hm'
      rw [lexB3] at hlt2
      simp only [decide_eq_false_iff_not, decide_eq_true_eq] at hm' hlt2
      omega
  have hpr : prs st i = pairV n i := by unfold prs; rw [hqq]
  have hfl : (pend.set i ks).flatten.Perm rest' := by
    have h1 := (flatten_set hpi).symm.trans x.restE
    rw [hkt] at h1
    exact h1.cons_inv
  have htl : tl.Perm ((al.erase i).map (prs st)) := by
    have h1 := x.heapP.trans ((List.perm_cons_erase hial).map (prs st))
    exact h1.cons_inv
  have hset : ∀ q' j, stN (st.set i q') j = if j = i then q' else stN st j := fun q' j => by
    unfold stN
    rw [List.getD_eq_getElem?_getD, List.getD_eq_getElem?_getD, List.getElem?_set]
    by_cases e : i = j
    · subst e; simp [hist]
    · have e' : ¬ j = i := fun z => e z.symm
      simp [e, e']
  have hpset : ∀ j, (pend.set i ks).getD j [] = if j = i then ks else pend.getD j [] := fun j => by
    rw [List.getD_eq_getElem?_getD, List.getD_eq_getElem?_getD, List.getElem?_set]
    by_cases e : i = j
    · subst e; simp [hipl]
    · have e' : ¬ j = i := fun z => e z.symm
      simp [e, e']
  have hmap : ∀ q', (al.erase i).map (prs (st.set i q')) = (al.erase i).map (prs st) := fun q' => by
    refine List.map_congr_left fun j hj => ?_
    have : j ≠ i := ((x.nod.mem_erase_iff).mp hj).1
    unfold prs
    rw [hset, if_neg this]
  have hyE : ys = (done ++ [y]) ++ rest' := by rw [x.ysE]; simp
  have common : ∀ (heap' : List V) (al' : List Nat), ((ks = [] ∧ (lexT n r).2.1 = endN (texts.getD i [])) ∨ Strm i (endN (texts.getD i [])) (lexT n r).2.1 (lexT n r).2.2 ks) → (∀ j, j ∈ al' ↔ j < 5 ∧ (pend.set i ks).getD j [] ≠ []) → al'.Nodup → heap'.Perm (al'.map (prs (st.set i (lexT n r).2))) → HP ltP 0 heap' →
      LIx texts ys (st.set i (lexT n r).2) heap' (done ++ [y]) (pend.set i ks) rest' al' := by
    intro heap' al' hc hal' hnd' hpm' hhp'
    refine ⟨x.tx, x.n17, x.sorted, by simp [x.pl], by simp [x.sl], fun j hj => ?_, fun j hj => ?_, fun j hj => ?_, hal', hnd', hpm', hhp', hyE, hfl⟩
    · rw [hset, hpset]
      by_cases e : j = i
      · subst e; rw [if_pos rfl, if_pos rfl]; exact hc
      · rw [if_neg e, if_neg e]; exact x.str j hj
    · rw [hpset]
      by_cases e : j = i
      · subst e; rw [if_pos rfl]; exact (List.pairwise_cons.mp hsri).2
      · rw [if_neg e]; exact x.srt j hj
    · rw [hset]
      by_cases e : j = i
      · subst e; rw [if_pos rfl]
        have := lexT_len n r
        omega
      · rw [if_neg e]; exact x.siz j hj
  refine ⟨i, n, r, p, tl, hi5, by rw [hpr], by rw [hsti], hq, fun hw => ?_, fun hw => ?_⟩
  · rcases hcase with ⟨_, hks0, hnf⟩ | ⟨hw', _⟩
    · subst hks0
      obtain ⟨vs, last, hvl⟩ : ∃ vs last, prs st i :: tl = vs ++ [last] := ⟨(prs st i :: tl).dropLast, (prs st i :: tl).getLast (by simp), (List.dropLast_concat_getLast _).symm⟩
      have hIP' := hIP
      have hhp := x.hp
      rw [hvl] at hIP' hhp
      obtain ⟨p1, p2, p3⟩ := pop_ok LO_P hIP' hhp
      rw [← hvl] at p2 p3
      have p4 : (popH ltP vs last).1 = prs st i := by simpa using p3
      rw [p4] at p2
      refine ⟨vs, last, hvl, p4.trans hpr, ?_⟩
      rw [hw] at hkt
      rw [hkt]
      refine ⟨pend.set i [], rest', al.erase i, common _ _ (.inl ⟨rfl, hnf⟩) (fun j => ?_) (x.nod.erase i) ?_ p1⟩
      · rw [x.nod.mem_erase_iff, x.alive, hpset]
        by_cases e : j = i
        · subst e; simp
        · rw [if_neg e]; simp [e]
      · rw [hmap]
        exact p2.cons_inv.trans htl
    · exact absurd hw hw'
  · rcases hcase with ⟨hw', _, _⟩ | ⟨_, hst'⟩
    · exact absurd hw' hw
    · rw [hkt]
      obtain ⟨p1, p2⟩ := replace_ok LO_P (x := prs st i) (y := pairV (lexT n r).2.1 i) hIP ⟨_, _, rfl⟩ x.hp
      refine ⟨pend.set i ks, rest', i :: al.erase i, common _ _ (.inr hst') (fun j => ?_) ?_ ?_ p1⟩
      · rw [List.mem_cons, x.nod.mem_erase_iff, x.alive, hpset]
        by_cases e : j = i
        · subst e
          rw [if_pos rfl]
          obtain ⟨_, _, e1, _⟩ := hst'.head
          simp [e1, hi5]
        · rw [if_neg e]; simp [e]
      · exact List.nodup_cons.mpr ⟨fun hh => (x.nod.mem_erase_iff.mp hh).1 rfl, x.nod.erase i⟩
      · refine p2.trans ?_
        rw [List.map_cons, hmap]
        have : prs (st.set i (lexT n r).2) i = pairV (lexT n r).2.1 i := by unfold prs; rw [hset, if_pos rfl]
        rw [this]
        exact htl.cons _
end
section
open PySem PySem.Spec PySem.Calls PyProof.Rows PySem.P
/-! what is written is read again -/
theorem nl_count (c : Nat) (l : List Nat) : (((c :: l).count 10 : Nat) : Int) = nl c + ((l.count 10 : Nat) : Int) := by
  rw [List.count_cons]
  unfold nl
  by_cases h : c = 10
  · subst h; simp; omega
  · have : (c == 10) = false := by simpa using h
    simp [h]
theorem lexT_blank : ∀ (g : List Nat) (n : Int) (r : List Nat), (∀ c ∈ g, c ∈ blk) → lexT n (g ++ r) = lexT (n + ((g.count 10 : Nat) : Int)) r
  | [], n, r, _ => by simp
  | c :: g, n, r, h => by
    rw [List.cons_append, lexT_cons, if_pos (h c (.head _)), lexT_blank g _ r (fun d hd => h d (.tail _ hd)), nl_count]
    congr 1; omega
theorem esc_count (q : Bool) (i c : Nat) : (((esc q i c).count 10 : Nat) : Int) = nl c := by
  unfold esc
  split
  · rw [nl_count, nl_count]; simp [nl]
  · rw [nl_count]; simp
theorem lexQ_esc (tok : List Nat) (n : Int) (i c : Nat) (r : List Nat) : lexQ tok n (esc true i c ++ r) = lexQ (tok ++ [c]) (n + nl c) r := by
  unfold esc hid
  by_cases h : c ∈ [34, 92]
  · simp only [h, decide_true, if_true]
    rw [List.cons_append, lexQ_cons, if_neg (by decide), if_pos rfl]
    rfl
  · simp only [h, decide_false, if_true, Bool.false_eq_true, if_false]
    simp only [List.mem_cons, List.not_mem_nil, or_false, not_or] at h
    rw [List.cons_append, lexQ_cons, if_neg h.1, if_neg h.2]
    rfl
theorem lexW_esc (tok : List Nat) (n : Int) (i c : Nat) (r : List Nat) (hi : i ≠ 0) (h13 : c ≠ 13) : lexW tok n (esc false i c ++ r) = lexW (tok ++ [c]) (n + nl c) r := by
  unfold esc hid
  by_cases h : c ∈ [10, 9, 32, 92]
  · simp only [h, decide_true, Bool.true_or, Bool.false_eq_true, if_false, if_true]
    rw [List.cons_append, lexW_cons, if_neg (by decide), if_pos rfl]
    rfl
  · have hb : (i == 0) = false := by simpa using hi
    simp only [h, decide_false, Bool.false_or, hb, Bool.and_false, Bool.false_eq_true, if_false]
    simp only [List.mem_cons, List.not_mem_nil, or_false, not_or] at h
    rw [List.cons_append, lexW_cons, if_neg (by simp [blk]; omega), if_neg h.2.2.2]
    rfl
theorem lexT_esc (n : Int) (c : Nat) (r : List Nat) (h13 : c ≠ 13) : lexT n (esc false 0 c ++ r) = lexW [c] (n + nl c) r := by
  unfold esc hid
  by_cases h : c ∈ [10, 9, 32, 92]
  · simp only [h, decide_true, Bool.true_or, Bool.false_eq_true, if_false, if_true]
    rw [List.cons_append, lexT_cons, if_neg (by decide), if_neg (by decide), if_pos rfl]
    rfl
  · by_cases h34 : c = 34
    · subst h34
      simp only [h, decide_false, Bool.false_or, beq_self_eq_true, Bool.and_true, Bool.false_eq_true, if_false, if_true]
      rw [List.cons_append, lexT_cons, if_neg (by decide), if_neg (by decide), if_pos rfl]
      rfl
    · have hb : (c == 34) = false := by simpa using h34
      simp only [h, decide_false, Bool.false_or, hb, Bool.false_and, Bool.false_eq_true, if_false]
      simp only [List.mem_cons, List.not_mem_nil, or_false, not_or] at h
      rw [List.cons_append, lexT_cons, if_neg (by simp [blk]; omega), if_neg h34, if_neg h.2.2.2]
      rfl
/-- how much of the gap goes with the word -/
noncomputable def tk (q : Bool) : Nat := if q then 0 else 1
theorem lex_word {g gap : List Nat} (n : Int) (q : Bool) (a b : Nat) (more : List Nat) (hg : ∀ c ∈ g, c ∈ blk) (hgap : ∀ c ∈ gap, c ∈ blk) (hne : gap ≠ []) (ha : a ≠ 13) (hb : b ≠ 13) :
    lexT n (g ++ (wr q [a, b] ++ (gap ++ more))) = ([a, b], n + ((g.count 10 : Nat) : Int) + (((wr q [a, b]).count 10 : Nat) : Int) + (((gap.take (tk q)).count 10 : Nat) : Int), gap.drop (tk q) ++ more) := by
  rw [lexT_blank g n _ hg]
  generalize n + ((g.count 10 : Nat) : Int) = n
  cases q with
  | true =>
    have e : wr true [a, b] = 34 :: (esc true 0 a ++ (esc true 1 b ++ [34])) := by simp [wr, wrGo]
    rw [e]
    have e2 : 34 :: (esc true 0 a ++ (esc true 1 b ++ [34])) ++ (gap ++ more) = 34 :: (esc true 0 a ++ (esc true 1 b ++ (34 :: (gap ++ more)))) := by simp
    rw [e2, lexT_cons, if_neg (by decide), if_pos rfl, lexQ_esc, lexQ_esc, lexQ_cons, if_pos rfl]
    simp only [tk, if_true, List.take_zero, List.drop_zero, List.count_nil, List.nil_append]
    rw [nl_count, List.count_append, List.count_append, Int.natCast_add, Int.natCast_add, esc_count, esc_count]
    simp [nl]
    omega
  | false =>
    have e : wr false [a, b] = esc false 0 a ++ esc false 1 b := by simp [wr, wrGo]
    rw [e]
    obtain ⟨c, gap', rfl⟩ : ∃ c g', gap = c :: g' := by
      cases gap with
      | nil => exact absurd rfl hne
      | cons c g => exact ⟨c, g, rfl⟩
    have e2 : esc false 0 a ++ esc false 1 b ++ (c :: gap' ++ more) = esc false 0 a ++ (esc false 1 b ++ (c :: (gap' ++ more))) := by simp
    rw [e2, lexT_esc _ _ _ ha, lexW_esc _ _ _ _ _ (by decide) hb, lexW_cons, if_pos (hgap c (.head _))]
    simp only [tk, Bool.false_eq_true, if_false, List.take_succ_cons, List.take_zero, List.drop_succ_cons, List.drop_zero]
    rw [nl_count, List.count_append, Int.natCast_add, esc_count, esc_count]
    simp
    omega
inductive Runs (w : Nat) (n : Int) (r : List Nat) : List KT → Int → List Nat → Prop
  | nil : Runs w n r [] n r
  | snoc {ks : List KT} {n' n'' p : Int} {r' r'' x : List Nat} (h : Runs w n r ks n' r') (e : lexT n' r' = (x, n'', r'')) (hx : x ≠ []) : Runs w n r (ks ++ [([n', (w : Int), p], [.str (S x)])]) n'' r''
theorem Runs.strm {w : Nat} {n n' nf : Int} {r r' : List Nat} {ks : List KT} (h : Runs w n r ks n' r') : ∀ {ks' : List KT}, Strm w nf n' r' ks' → Strm w nf n r (ks ++ ks') := by
  induction h with
  | nil => intro ks' s; exact s
  | snoc h e hx ih =>
    intro ks' s
    rw [List.append_assoc]
    exact ih (.cons e hx s)
structure FI (w : Nat) (t : List Nat) (s : Nat) (ks : List KT) (i : Nat) : Prop where
  run : ∀ more, Runs w 1 (t ++ more) ks (rowOf t s : Nat) (t.drop s ++ more)
  blank : ∀ c ∈ t.drop s, c ∈ blk
  le : s ≤ t.length
  sorted : ks.Pairwise (fun x y => lexB x.1 y.1 = true)
  shape : ∀ k ∈ ks, ∃ (r : Int) (p : Nat) (z : Str), k = ([r, (w : Int), (p : Int)], [V.str z]) ∧ r ≤ (rowOf t s : Nat) ∧ p < i
theorem rowOf_app (t : List Nat) (s : Nat) (u : List Nat) (k : Nat) (hs : s ≤ t.length) : rowOf (t ++ u) (t.length + k) = rowOf t s + (t.drop s).count 10 + (u.take k).count 10 := by
  unfold rowOf
  rw [List.take_length_add_append, List.count_append]
  have : t.count 10 = (t.take s).count 10 + (t.drop s).count 10 := by rw [← List.count_append, List.take_append_drop]
  omega
theorem FI.snoc {w s i : Nat} {t : List Nat} {ks : List KT} (h : FI w t s ks i) (q : Bool) (a b : Nat) (gap : List Nat) (hgap : ∀ c ∈ gap, c ∈ blk) (hne : gap ≠ []) (ha : a ≠ 13) (hb : b ≠ 13) :
    FI w (t ++ wr q [a, b] ++ gap) ((t ++ wr q [a, b]).length + tk q) (ks ++ [([((rowOf t s : Nat) : Int), (w : Int), (i : Int)], [V.str (S [a, b])])]) (i + 1) := by
  have hgl : tk q ≤ gap.length := by
    have : 0 < gap.length := List.length_pos_iff.mpr hne
    unfold tk; split <;> omega
  have hdrop : (t ++ wr q [a, b] ++ gap).drop ((t ++ wr q [a, b]).length + tk q) = gap.drop (tk q) := by
    rw [List.drop_length_add_append]
  have hrow : rowOf (t ++ wr q [a, b] ++ gap) ((t ++ wr q [a, b]).length + tk q) = rowOf t s + (t.drop s).count 10 + (wr q [a, b]).count 10 + (gap.take (tk q)).count 10 := by
    have e := rowOf_app t s (wr q [a, b] ++ gap) ((wr q [a, b]).length + tk q) h.le
    rw [List.take_length_add_append, List.count_append] at e
    rw [List.append_assoc, List.length_append, Nat.add_assoc, e]
    omega
  refine ⟨fun more => ?_, ?_, ?_, ?_, ?_⟩
  · rw [hdrop, hrow]
    have e := h.run (wr q [a, b] ++ (gap ++ more))
    have e2 : t ++ wr q [a, b] ++ gap ++ more = t ++ (wr q [a, b] ++ (gap ++ more)) := by simp
    rw [e2]
    refine e.snoc (x := [a, b]) ?_ (by simp)
    rw [lex_word _ q a b more h.blank hgap hne ha hb]
    congr 2
  · rw [hdrop]; intro c hc; exact hgap c (List.mem_of_mem_drop hc)
  · simp only [List.length_append]; omega
  · rw [List.pairwise_append]
    refine ⟨h.sorted, List.pairwise_singleton _ _, fun x hx y hy => ?_⟩
    cases List.mem_singleton.mp hy
    obtain ⟨r, p, z, rfl, h1, h2⟩ := h.shape x hx
    rw [lexB3]
    rw [decide_eq_true_eq]
    rcases Int.lt_or_eq_of_le h1 with h | h
    · exact .inl h
    · exact .inr ⟨h, .inr ⟨rfl, Int.ofNat_lt.mpr h2⟩⟩
  · intro k hk
    rcases List.mem_append.mp hk with hk | hk
    · obtain ⟨r, p, z, rfl, h1, h2⟩ := h.shape k hk
      exact ⟨r, p, z, rfl, by rw [hrow]; omega, by omega⟩
    · cases List.mem_singleton.mp hk
      exact ⟨_, i, _, rfl, by rw [hrow]; omega, by omega⟩
theorem FI.le' {w s i j : Nat} {t : List Nat} {ks : List KT} (h : FI w t s ks i) (hij : i ≤ j) : FI w t s ks j :=
  ⟨h.run, h.blank, h.le, h.sorted, fun k hk => let ⟨r, p, z, e, h1, h2⟩ := h.shape k hk; ⟨r, p, z, e, h1, by omega⟩⟩
structure GI (st : FS) (i : Nat) (kss : List (List KT)) : Prop where
  tl : st.texts.length = 5
  sl : st.stops.length = 5
  kl : kss.length = 5
  wl : st.words.length = i
  perm : st.words.Perm kss.flatten
  siz : ∀ t ∈ st.texts, t.length ≤ 100 * i
  fi : ∀ w, w < 5 → FI w (st.texts.getD w []) (st.stops.getD w 0) (kss.getD w []) i
theorem flatten_snoc {α : Type} : ∀ {l : List (List α)} {i : Nat} {k : List α} {y : α}, l[i]? = some k → (l.flatten ++ [y]).Perm ((l.set i (k ++ [y])).flatten)
  | [], i, k, y, h => by simp at h
  | p :: l, 0, k, y, h => by
    have e : p = k := by simpa using h
    subst e
    simp only [List.flatten_cons, List.set_cons_zero, List.append_assoc]
    exact List.Perm.append_left _ List.perm_append_comm
  | p :: l, i + 1, k, y, h => by
    have ih := flatten_snoc (l := l) (i := i) (y := y) (by simpa using h)
    simp only [List.flatten_cons, List.set_cons_succ, List.append_assoc]
    exact ih.append_left p
theorem getD_set {α : Type} {l : List α} {i : Nat} (x d : α) (j : Nat) (hi : i < l.length) : (l.set i x).getD j d = if j = i then x else l.getD j d := by
  rw [List.getD_eq_getElem?_getD, List.getD_eq_getElem?_getD, List.getElem?_set]
  by_cases e : i = j
  · subst e; simp [hi]
  · have e' : ¬ j = i := fun z => e z.symm
    simp [e, e']
theorem sgs_ne (j : Nat) : sgs.getD j 0 ≠ 13 := by
  by_cases hj : j < 8
  · have : ∀ j, j < 8 → sgs.getD j 0 ≠ 13 := by decide
    exact this j hj
  · rw [List.getD_eq_getElem?_getD, List.getElem?_eq_none (by show 8 ≤ j; omega)]; decide
theorem gps_ok (j : Nat) (hj : j < 4) : (∀ c ∈ gps.getD j [], c ∈ blk) ∧ gps.getD j [] ≠ [] ∧ (gps.getD j []).length ≤ 3 := by
  have : ∀ j, j < 4 → (∀ c ∈ gps.getD j [], c ∈ blk) ∧ gps.getD j [] ≠ [] ∧ (gps.getD j []).length ≤ 3 := by decide
  exact this j hj
theorem GI.step {st : FS} {i : Nat} {kss : List (List KT)} (h : GI st i kss) (f : Nat) : ∃ kss', GI (fStep st i f) (i + 1) kss' := by
  have h5 : f % 5 < 5 := by omega
  have hfi := h.fi (f % 5) h5
  obtain ⟨g1, g2, g3⟩ := gps_ok (f / 10 % 4) (by omega)
  have hsn := hfi.snoc (fQ f) (sgs.getD (f / 40 % 8) 0) (sgs.getD (f / 320 % 8) 0) (gps.getD (f / 10 % 4) []) g1 g2 (sgs_ne _) (sgs_ne _)
  have hk : kss[f % 5]? = some (kss.getD (f % 5) []) := by rw [List.getD_eq_getElem?_getD, List.getElem?_eq_getElem (by rw [h.kl]; exact h5)]; rfl
  have htk : ∀ q : Bool, (if q = true then 0 else 1) = tk q := fun q => rfl
  refine ⟨kss.set (f % 5) (kss.getD (f % 5) [] ++ [([((rowOf (st.texts.getD (f % 5) []) (st.stops.getD (f % 5) 0) : Nat) : Int), ((f % 5 : Nat) : Int), (i : Int)], [V.str (S (fWord f))])]), ⟨?_, ?_, ?_, ?_, ?_, ?_, ?_⟩⟩
  · simp [fStep, h.tl]
  · simp [fStep, h.sl]
  · simp [h.kl]
  · simp [fStep, h.wl]
  · simp only [fStep]
    exact (h.perm.append_right _).trans (flatten_snoc hk)
  · intro t ht
    simp only [fStep] at ht
    have hx : (st.texts.getD (f % 5) []).length ≤ 100 * i := h.siz _ (by
      rw [List.getD_eq_getElem?_getD, List.getElem?_eq_getElem (by rw [h.tl]; exact h5)]; exact List.getElem_mem _)
    have hw : (wr (fQ f) (fWord f)).length ≤ 6 := wr_len _ _ _
    rcases List.mem_or_eq_of_mem_set ht with ht | rfl
    · rcases List.mem_or_eq_of_mem_set ht with ht | rfl
      · have := h.siz t ht; omega
      · rw [List.length_append]; omega
    · rw [List.length_append, List.length_append]; omega
  · intro w hw
    simp only [fStep]
    rw [List.set_set, getD_set _ _ _ (by rw [h.tl]; exact h5), getD_set _ _ _ (by rw [h.sl]; exact h5), getD_set _ _ _ (by rw [h.kl]; exact h5)]
    by_cases e : w = f % 5
    · rw [if_pos e, if_pos e, if_pos e]
      rw [e]
      exact hsn
    · rw [if_neg e, if_neg e, if_neg e]
      exact (h.fi w hw).le' (by omega)
theorem GI.go : ∀ (figs : List Nat) {st : FS} {i : Nat} {kss : List (List KT)}, GI st i kss → ∃ kss', GI (fGo st i figs) (i + figs.length) kss'
  | [], st, i, kss, h => ⟨kss, h⟩
  | f :: r, st, i, kss, h => by
    obtain ⟨kss', h'⟩ := h.step f
    obtain ⟨k2, h2⟩ := GI.go r h'
    refine ⟨k2, ?_⟩
    rw [List.length_cons, show i + (r.length + 1) = i + 1 + r.length by omega]
    exact h2
theorem GI_start : GI fs0 0 [[], [], [], [], []] := by
  refine ⟨rfl, rfl, rfl, rfl, .refl _, by decide, fun w hw => ?_⟩
  have : w = 0 ∨ w = 1 ∨ w = 2 ∨ w = 3 ∨ w = 4 := by omega
  have hf : FI w [] 0 [] 0 := ⟨fun more => .nil, by simp, by simp, .nil, fun k hk => nomatch hk⟩
  rcases this with rfl | rfl | rfl | rfl | rfl <;> exact hf
noncomputable def eW (st : FS) (i w : Nat) : KT := ([(rowOf (st.texts.getD w []) (st.stops.getD w 0) : Int), (w : Nat), ((i + w : Nat) : Int)], [.str (S [])])
theorem fFin_words (st : FS) : (fFin st 0 5).words = st.words ++ [eW st st.words.length 0, eW st st.words.length 1, eW st st.words.length 2, eW st st.words.length 3, eW st st.words.length 4] ∧ (fFin st 0 5).texts = st.texts := by
  constructor
  · simp [fFin, fEnd, eW]
  · simp [fFin, fEnd]
theorem len5 {α : Type} {xs : List α} (h : xs.length = 5) : ∃ a b c d e, xs = [a, b, c, d, e] := by
  match xs, h with
  | [a, b, c, d, e], _ => exact ⟨a, b, c, d, e, rfl⟩
theorem files_ok {figs : List Nat} (hl : figs.length = 12) {ys : List KT} (hp : ys.Perm (fFin (fGo fs0 0 figs) 0 5).words) (hs : ys.Pairwise (fun x y => lexB x.1 y.1 = true)) : Prs (fFin (fGo fs0 0 figs) 0 5).texts ys := by
  obtain ⟨kss, h⟩ := GI.go figs GI_start
  rw [hl, Nat.zero_add] at h
  generalize fGo fs0 0 figs = st at *
  obtain ⟨e1, e2⟩ := fFin_words st
  rw [h.wl] at e1
  rw [e1] at hp
  rw [e2]
  have sh : ∀ w, w < 5 → ∀ k ∈ kss.getD w [], shp k := fun w hw k hk => by
    obtain ⟨r, p, z, rfl, _⟩ := (h.fi w hw).shape k hk
    exact ⟨_, _, _, _, rfl⟩
  obtain ⟨k0, k1, k2, k3, k4, rfl⟩ := len5 h.kl
  refine ⟨h.tl, fun t ht => by have := h.siz t ht; omega, fun y hy => ?_, hs, ?_, [k0 ++ [eW st 12 0], k1 ++ [eW st 12 1], k2 ++ [eW st 12 2], k3 ++ [eW st 12 3], k4 ++ [eW st 12 4]], rfl, ?_, fun w hw => ?_⟩
  · have hy' := hp.mem_iff.mp hy
    rcases List.mem_append.mp hy' with hy' | hy'
    · have hm := h.perm.mem_iff.mp hy'
      obtain ⟨l, hl', hyl⟩ := List.mem_flatten.mp hm
      obtain ⟨w, hw, e⟩ := List.getElem_of_mem hl'
      have hw5 : w < 5 := hw
      refine sh w hw5 y ?_
      rw [List.getD_eq_getElem?_getD, List.getElem?_eq_getElem hw, e]; exact hyl
    · simp only [List.mem_cons, List.not_mem_nil, or_false] at hy'
      rcases hy' with rfl | rfl | rfl | rfl | rfl <;> exact ⟨_, _, _, _, rfl⟩
  · rw [hp.length_eq, List.length_append, h.wl]; rfl
  · refine List.Perm.trans ?_ hp.symm
    have hpm := h.perm
    classical
    rw [List.perm_iff_count] at hpm ⊢
    intro b
    have := hpm b
    simp only [List.flatten_cons, List.flatten_nil, List.append_nil, List.count_append, List.count_cons, List.count_nil] at this ⊢
    omega
  · have hf := h.fi w hw
    have hg : ([k0 ++ [eW st 12 0], k1 ++ [eW st 12 1], k2 ++ [eW st 12 2], k3 ++ [eW st 12 3], k4 ++ [eW st 12 4]] : List (List KT)).getD w [] = ([k0, k1, k2, k3, k4] : List (List KT)).getD w [] ++ [eW st 12 w] := by
      have : w = 0 ∨ w = 1 ∨ w = 2 ∨ w = 3 ∨ w = 4 := by omega
      rcases this with rfl | rfl | rfl | rfl | rfl <;> rfl
    rw [hg]
    constructor
    · have r := hf.run []
      rw [List.append_nil, List.append_nil] at r
      refine r.strm (.fin ?_)
      have := lexT_blank ((st.texts.getD w []).drop (st.stops.getD w 0)) (rowOf (st.texts.getD w []) (st.stops.getD w 0) : Nat) [] hf.blank
      rw [List.append_nil] at this
      rw [this]
      have hc : (st.texts.getD w []).count 10 = ((st.texts.getD w []).take (st.stops.getD w 0)).count 10 + ((st.texts.getD w []).drop (st.stops.getD w 0)).count 10 := by rw [← List.count_append, List.take_append_drop]
      rw [lexT]
      congr 2
      unfold endN rowOf
      omega
    · rw [List.pairwise_append]
      refine ⟨hf.sorted, List.pairwise_singleton _ _, fun x hx y hy => ?_⟩
      cases List.mem_singleton.mp hy
      obtain ⟨r, p, z, rfl, h1, h2⟩ := hf.shape x hx
      unfold eW
      rw [lexB3]
      rw [decide_eq_true_eq]
      rcases Int.lt_or_eq_of_le h1 with h | h
      · exact .inl h
      · exact .inr ⟨h, .inr ⟨rfl, Int.ofNat_lt.mpr (by omega)⟩⟩
end
section
open PySem PySem.Spec PySem.Calls PyProof.Rows PySem.P
noncomputable def mach (Cl c' : Addr) (p : MA × (Int × List Nat)) : Cs := rd Cl c' p.1 p.2.1 p.2.2 ++ [(p.1.pb, .list [])]
noncomputable def machs (Cl c' : Addr) (ms : List MA) (st : List (Int × List Nat)) : Cs := (ms.zip st).flatMap (mach Cl c')
theorem machs_get {Cl c' : Addr} {ms : List MA} {st : List (Int × List Nat)} {i : Nat} {m : MA} {q : Int × List Nat} (h1 : ms[i]? = some m) (h2 : st[i]? = some q) : (machs Cl c' ms st)[5 * i]? = some (m.x, .inst Cl m.d (lexA q.1 (.ref m.t) m.pb)) := by
  have := flat_get (f := mach Cl c') (w := 5) (fun x => rfl) (l := ms.zip st) (i := i) (x := (m, q)) (j := 0) (by rw [List.getElem?_zip_eq_some]; exact ⟨h1, h2⟩) (by omega)
  rw [Nat.add_zero] at this
  exact this
theorem zip_set {α β : Type} : ∀ {l : List α} {k : List β} {i : Nat} {x : α} {y : β}, l[i]? = some x → (l.zip k).set i (x, y) = l.zip (k.set i y)
  | [], k, i, x, y, h => by simp at h
  | a :: l, [], i, x, y, h => by simp
  | a :: l, b :: k, 0, x, y, h => by
    have : a = x := by simpa using h
    subst this; rfl
  | a :: l, b :: k, i + 1, x, y, h => by
    show (a, b) :: (l.zip k).set i (x, y) = (a, b) :: l.zip (k.set i y)
    rw [zip_set (by simpa using h)]
theorem machs_perm {Cl c' : Addr} {ms : List MA} {st : List (Int × List Nat)} {i : Nat} {m : MA} {q : Int × List Nat} (h1 : ms[i]? = some m) (h2 : st[i]? = some q) :
    ∃ R, (machs Cl c' ms st).Perm (mach Cl c' (m, q) ++ R) ∧ ∀ q', (mach Cl c' (m, q') ++ R).Perm (machs Cl c' ms (st.set i q')) := by
  have hz : (ms.zip st)[i]? = some (m, q) := by rw [List.getElem?_zip_eq_some]; exact ⟨h1, h2⟩
  refine ⟨((ms.zip st).eraseIdx i).flatMap (mach Cl c'), ?_, fun q' => ?_⟩
  · have := (set_perm (y := (m, q)) hz).1.flatMap_right (mach Cl c')
    simpa [machs] using this
  · have := (set_perm (y := (m, q')) hz).2.flatMap_right (mach Cl c')
    rw [zip_set h1] at this
    simpa [machs] using this
/-- how the law ends -/
noncomputable def fin (T : TI) : Fl → Lo → Cs → Prop := fun fl _ H => fl = .ret (.bool true) ∧ ∃ c', (T.tb, Cell.tab1 c' tpos rdQ) ∈ H
variable {T : TI} {A : Around} {Cl N : Addr} {mN : Str → Option Value}
noncomputable abbrev lawFd (pm cd : Value) : FuncData := fdOf (sn "law") pm cd (stAt Pr 13)
noncomputable abbrev lawE (pm cd : Value) (L a : Addr) : Env := callEnvC (lawFd pm cd) L a
theorem law_machines (tq : Tq T) (tc : Tc T Cl N mN) {mg : Str → Option Value} (tn : Tn T mg Cl) {k : Nat} {L a tx wd : Addr} {pm cd : Value} {texts : List (List Nat)} {W : List V} {K : Fl → Lo → Cs → Prop} (rm : Rm A (k + 10)) (h5 : texts.length = 5) (hsz : ∀ t ∈ texts, t.length ≤ 100000)
    (h : ∀ D c' ms, ms.length = 5 → Exs T A (lawE pm cd L a) [(sn "texts", .ref tx), (sn "words", .ref wd), (sn "machines", .ref D)] ((D, .list (ms.map fun m => V.ref m.x)) :: (wd, .list W) :: (tx, .list (sV texts)) :: (T.tb, .tab1 c' tpos rdQ) :: machs Cl c' ms (texts.map fun t => (1, t))) ((fdB (stAt Pr 13)).drop 4) K) :
    Exs T A (lawE pm cd L a) [(sn "texts", .ref tx), (sn "words", .ref wd)] [(wd, .list W), (tx, .list (sV texts)), (T.tb, .tab)] ((fdB (stAt Pr 13)).drop 3) K := by
  obtain ⟨aT, pmT, hgT, dT⟩ := tn.tape
  refine Exs_cons ?_
  refine Ex_assignC (c := L + 1) ?_
  refine Ev_comp [] ?_
  refine Ev_name (v := .ref tx) (by walk_at "lk") ?_
  refine Itr.swap (Itr_list (j := 2) rfl fun it => ⟨_, _, rfl, fun D LC => ⟨Self_lit (i := 3) rfl, ?_⟩⟩)
  refine Cm_ind (ι := Nat) (fun i ℓ H => ℓ = [] ∧ i ≤ 5 ∧ ∃ (c' : Addr) (ms : List MA), ms.length = i ∧ H = lc (lawE pm cd L a) [(sn "texts", .ref tx), (sn "words", .ref wd)] :: (D, .list (ms.map fun m => V.ref m.x)) :: (it, .lit tx i) :: (wd, .list W) :: (tx, .list (sV texts)) :: (T.tb, if i = 0 then .tab else .tab1 c' tpos rdQ) :: machs Cl c' ms ((texts.take i).map fun t => (1, t))) (fun i => 5 - i) ?_ 0 ⟨rfl, by omega, 0, [], rfl, rfl⟩
  rintro i ℓ H ⟨rfl, hi, c', ms, hms, rfl⟩ ih
  refine Cm_step ?_
  by_cases hlt : i < 5
  · have hlt' : i < texts.length := by omega
    refine Nt_list (i := 3) (j := 5) (v := .str (S texts[i])) rfl rfl (by rw [sV, List.getElem?_map, List.getElem?_eq_getElem hlt']; rfl) ⟨_, rfl, ?_⟩
    refine Asn_name ?_
    apply exu
    case u => walk_at "up"
    refine Ev_call ?_
    refine Ev_glob tn.cls tq.ng ?_
    refine ⟨_, rfl, ?_⟩
    refine Evs_cons ?_
    refine Ev_call ?_
    refine Ev_glob hgT tq.ng ?_
    refine ⟨_, rfl, ?_⟩
    repeat walk_at "ev"
    refine ⟨dT.callee _, ?_⟩
    generalize htab : (if i = 0 then Cell.tab else Cell.tab1 c' tpos rdQ) = tbl
    have htl : (texts[i]).length ≤ 100000 := hsz _ (List.getElem_mem hlt')
    refine Call.framed (C := [_]) (tape_call tq tc tn (k := k + 6) (text := texts[i]) (tab := tbl) (K := fun v C' => ∃ t d2 pb2 f c left doc ctv c'', (∀ c0, tbl = .tab1 c0 tpos rdQ → c'' = c0) ∧ v = .ref t ∧ C' = [(t, .inst Cl d2 (tapA pb2 f)), (f, .clo (rdFd c doc ((mg "__name__").getD .none) c'' ctv) c (.ref left)), (left, .list (chs texts[i])), (T.tb, .tab1 c'' tpos rdQ)]) dT rm htl ?_ (fun t d2 pb2 f c left doc ctv c'' hc => ⟨t, d2, pb2, f, c, left, doc, ctv, c'', hc, rfl, rfl⟩)) (List.perm_middle (l₁ := [_, _, _, _, _, _])) ?_
    · by_cases h0 : i = 0
      · rw [if_pos h0] at htab; exact .inl htab.symm
      · rw [if_neg h0] at htab; exact .inr ⟨c', htab.symm⟩
    rintro _ _ ⟨t, d2, pb2, f, c, left, doc, ctv, c'', hc, rfl, rfl⟩
    refine ⟨_, List.perm_middle (l₁ := [_, _, _, _]), _, rfl, ?_⟩
    refine Evs_nil ?_
    refine ⟨tc.cls.callee _, Call.swapL (class_call tc (k := k + 8) rm fun x d pb => ⟨[_, _], _, rfl, ?_⟩)⟩
    refine ⟨7, _, rfl, by simp; omega, ?_⟩
    refine Cm.forget (ℓ' := []) Sub_nil ?_
    have hcc : machs Cl c' ms ((texts.take i).map fun t => ((1 : Int), t)) = machs Cl c'' ms ((texts.take i).map fun t => ((1 : Int), t)) := by
      by_cases h0 : i = 0
      · subst h0
        have : ms = [] := List.length_eq_zero_iff.mp hms
        subst this; rfl
      · rw [if_neg h0] at htab
        rw [hc c' htab.symm]
    have hsn : machs Cl c'' (ms ++ [⟨x, d, pb, t, d2, pb2, f, c, left, doc, (mg "__name__").getD .none, ctv⟩]) ((texts.take (i + 1)).map fun t => ((1 : Int), t)) = machs Cl c'' ms ((texts.take i).map fun t => ((1 : Int), t)) ++ mach Cl c'' (⟨x, d, pb, t, d2, pb2, f, c, left, doc, (mg "__name__").getD .none, ctv⟩, (1, texts[i])) := by
      have e1 : texts.take (i + 1) = texts.take i ++ [texts[i]] := by rw [List.take_add_one, List.getElem?_eq_getElem hlt']; rfl
      rw [e1, List.map_append, machs, List.zip_append (by simp; omega), List.flatMap_append]
      simp [machs]
    refine Cm.perm ?pm (ih (i + 1) _ _ (by omega) ⟨rfl, hlt, c'', ms ++ [⟨x, d, pb, t, d2, pb2, f, c, left, doc, (mg "__name__").getD .none, ctv⟩], by simp [hms], rfl⟩)
    case pm =>
      rw [hsn, hcc, if_neg (by omega), List.map_append]
      refine List.Perm.trans ?_ (List.Perm.append_left [_, _, _, _, _, _] List.perm_append_comm)
      show (_ :: _ :: _ :: _ :: _ :: _ :: _ :: _ :: _ :: _ :: _ :: machs Cl c'' ms _).Perm (_ :: _ :: _ :: _ :: _ :: _ :: _ :: _ :: _ :: _ :: _ :: machs Cl c'' ms _)
      walk_at "pm"
      exact List.Perm.refl _
  · have hi5 : i = 5 := by omega
    subst hi5
    refine Nt_list_end (i := 3) (j := 5) rm rfl rfl (by simp [sV, h5]) ⟨_, rfl, ?_⟩
    clear ih
    rw [if_neg (by omega), List.take_of_length_le (by omega)]
    refine ⟨_, rfl, ?_⟩
    apply exu
    case u => walk_at "up"
    exact h D c' ms hms
end
section
open PySem PySem.Spec PySem.Calls PyProof.Rows PySem.P

variable {T : TI} {A : Around} {Cl N : Addr} {mN : Str → Option Value}
theorem law_heap (tq : Tq T) (tc : Tc T Cl N mN) {k : Nat} {L a tx wd D c' : Addr} {pm cd : Value} {texts : List (List Nat)} {W : List V} {ms : List MA} {K : Fl → Lo → Cs → Prop} (rm : Rm A (k + 10)) (h5 : texts.length = 5) (hms : ms.length = 5)
    (h : ∀ hp td, Exs T A (lawE pm cd L a) [(sn "texts", .ref tx), (sn "words", .ref wd), (sn "machines", .ref D), (sn "heap", .ref hp), (sn "told", .ref td)] ((td, .list []) :: (hp, .list (heapGo ltP 2 [pairV 1 4, pairV 1 3, pairV 1 2, pairV 1 1, pairV 1 0])) :: (D, .list (ms.map fun m => V.ref m.x)) :: (wd, .list W) :: (tx, .list (sV texts)) :: (T.tb, .tab1 c' tpos rdQ) :: machs Cl c' ms (texts.map fun t => (1, t))) ((fdB (stAt Pr 13)).drop 7) K) :
    Exs T A (lawE pm cd L a) [(sn "texts", .ref tx), (sn "words", .ref wd), (sn "machines", .ref D)] ((D, .list (ms.map fun m => V.ref m.x)) :: (wd, .list W) :: (tx, .list (sV texts)) :: (T.tb, .tab1 c' tpos rdQ) :: machs Cl c' ms (texts.map fun t => (1, t))) ((fdB (stAt Pr 13)).drop 4) K := by
  obtain ⟨aH, pmH, cdH, hgH, dH⟩ := tq.heapify
  refine Exs_cons ?_
  refine Ex_comp [(sn "machines", L + 1)] ?_
  refine Ev_tuple ?_
  repeat walk_at "ev"
  refine ⟨by simp, ?_⟩
  refine Itr.swap (Itr_tup fun it => ⟨_, _, rfl, fun hp LC => ⟨Self_tit (i := 3) rfl, ?_⟩⟩)
  refine Cm_ind (ι := List Nat × List Nat) (fun i ℓ H => ℓ = [] ∧ (∀ x ∈ i.2, x < 5) ∧ i.1 ++ i.2 = [4, 3, 2, 1, 0] ∧ H = lc (lawE pm cd L a) [(sn "texts", .ref tx), (sn "words", .ref wd), (sn "machines", .ref D)] :: (hp, .list (i.1.map fun (j : Nat) => pairV 1 (j : Int))) :: (it, .tit (i.2.map fun (j : Nat) => V.int (j : Int))) :: (D, .list (ms.map fun m => V.ref m.x)) :: (wd, .list W) :: (tx, .list (sV texts)) :: (T.tb, .tab1 c' tpos rdQ) :: machs Cl c' ms (texts.map fun t => (1, t))) (fun i => i.2.length) ?_ ([], [4, 3, 2, 1, 0]) ⟨rfl, by decide, rfl, rfl⟩
  rintro ⟨acc, rem⟩ ℓ H ⟨rfl, hrem, hap, rfl⟩ ih
  dsimp only at hrem hap ih ⊢
  refine Cm_step ?_
  cases rem with
  | cons j rem =>
    have hj : j < 5 := hrem j (.head _)
    refine Nt_tup (i := 3) (v := .int j) (vs := rem.map fun (j : Nat) => V.int (j : Int)) rfl ⟨_, rfl, ?_⟩
    refine Asn_name ?_
    apply exu
    case u => walk_at "up"
    refine Ev_tuple ?_
    refine Evs_cons ?_
    refine Ev_attr tc.cls tc.lineno o_lineno ?_
    refine Ev_sub ?_
    refine Ev_outer (i := 0) (v := .ref D) rfl (by walk_at "lk") ?_
    repeat walk_at "ev"
    have hm : ms[j]? = some (ms[j]'(by omega)) := List.getElem?_eq_getElem _
    generalize (ms[j]'(by omega)) = m at hm
    refine O_item (i := 4) (v := .ref m.x) rfl (by omega) (by omega) (by rw [Int.toNat_natCast, List.getElem?_map, hm]; rfl) ?_
    refine ⟨_, rfl, ?_⟩
    have hst : (texts.map fun t => ((1 : Int), t))[j]? = some (1, texts[j]'(by omega)) := by rw [List.getElem?_map, List.getElem?_eq_getElem (by omega)]; rfl
    refine ⟨m.x, 5 * j + 7, m.d, _, .int 1, rfl, machs_get hm hst, by walk_at "lk", (fun id e => nomatch e), ?_⟩
    repeat walk_at "ev"
    refine ⟨by simp, ?_⟩
    refine ⟨1, _, rfl, by simp; have := congrArg List.length hap; simp at this; omega, ?_⟩
    refine Cm.forget (ℓ' := []) Sub_nil ?_
    refine ih (acc ++ [j], rem) _ _ (by simp) ⟨rfl, fun x hx => hrem x (.tail _ hx), by simpa using hap, ?_⟩
    rw [List.map_append]
    rfl
  | nil =>
    refine Nt_tup_end (i := 3) rm rfl ⟨_, rfl, ?_⟩
    clear ih
    rw [List.append_nil] at hap
    subst hap
    refine ⟨_, rfl, ?_⟩
    apply exu
    case u => walk_at "up"
    refine Exs_cons ?_
    refine Ex_expr ?_
    refine Ev_call ?_
    refine Ev_glob hgH tq.ng ?_
    refine ⟨_, rfl, ?_⟩
    repeat walk_at "ev"
    refine ⟨dH.callee _, Call.at (i := 1) (heapify_call tq (n := k) (lt := ltP) (S := IsP) (vs := [pairV 1 4, pairV 1 3, pairV 1 2, pairV 1 1, pairV 1 0]) dH (ltP_ok T) ?_ (by simp) (rm.le (by omega))) rfl ?_⟩
    · intro v hv
      simp only [List.mem_cons, List.not_mem_nil, or_false] at hv
      rcases hv with rfl | rfl | rfl | rfl | rfl <;> exact ⟨_, _, rfl⟩
    rintro _ _ ⟨rfl, rfl⟩
    refine ⟨_, rfl, _, rfl, rfl, ?_⟩
    refine Exs_cons ?_
    refine Ex_assign ?_
    refine Ev_list ?_
    refine Evs_nil ?_
    refine ⟨by simp, fun td => ?_⟩
    apply exu
    case u => walk_at "up"
    exact h hp td
end
section
open PySem PySem.Spec PySem.Calls PyProof.Rows PySem.P

variable {T : TI} {A : Around} {Cl N : Addr} {mN : Str → Option Value}
theorem law_loop (tq : Tq T) (tc : Tc T Cl N mN) {k : Nat} {L a tx wd D c' hp td : Addr} {pm cd : Value} {texts : List (List Nat)} {ys : List KT} {W : List V} {ms : List MA} {K : Fl → Lo → Cs → Prop} (rm : Rm A (k + 10)) (h5 : texts.length = 5) (hms : ms.length = 5) (hP : Prs texts ys)
    (h : ∀ st : List (Int × List Nat), st.map (·.1) = texts.map endN → Exs T A (lawE pm cd L a) [(sn "texts", .ref tx), (sn "words", .ref wd), (sn "machines", .ref D), (sn "heap", .ref hp), (sn "told", .ref td)] ((td, .list (ys.map toldV)) :: (hp, .list []) :: (D, .list (ms.map fun m => V.ref m.x)) :: (wd, .list W) :: (tx, .list (sV texts)) :: (T.tb, .tab1 c' tpos rdQ) :: machs Cl c' ms st) ((fdB (stAt Pr 13)).drop 8) K) :
    Exs T A (lawE pm cd L a) [(sn "texts", .ref tx), (sn "words", .ref wd), (sn "machines", .ref D), (sn "heap", .ref hp), (sn "told", .ref td)] ((td, .list []) :: (hp, .list (heapGo ltP 2 [pairV 1 4, pairV 1 3, pairV 1 2, pairV 1 1, pairV 1 0])) :: (D, .list (ms.map fun m => V.ref m.x)) :: (wd, .list W) :: (tx, .list (sV texts)) :: (T.tb, .tab1 c' tpos rdQ) :: machs Cl c' ms (texts.map fun t => (1, t))) ((fdB (stAt Pr 13)).drop 7) K := by
  obtain ⟨aP, pmP, cdP, hgP, dP⟩ := tq.heappop
  obtain ⟨aR, pmR, cdR, hgR, dR⟩ := tq.heapreplace
  obtain ⟨aT, oT, pmT, cdT, hmT, hoT, hocT, hfdT, dT⟩ := tc.token
  refine Exs_cons ?_
  refine Ex_for ?_
  refine Ev_call ?_
  refine Ev_builtin (v := .ty "range") tq.range tq.ng tq.nb (fun _ => rfl) ?_
  refine ⟨_, rfl, ?_⟩
  repeat walk_at "ev"
  refine ⟨.inr (.inl ⟨_, rfl⟩), Call.swap (Call_range fun rg => ⟨_, _, rfl, ?_⟩)⟩
  refine Itr.swap (Itr_rng (j := 1) (n := 17) rfl (by omega) (by omega) (by omega) (by omega) (by simp) fun it => ⟨_, _, rfl, ?_⟩)
  refine Fo_ind (ι := List KT × List V × List (Int × List Nat)) (fun i ℓ H => ℓ = [(sn "texts", .ref tx), (sn "words", .ref wd), (sn "machines", .ref D), (sn "heap", .ref hp), (sn "told", .ref td)] ∧ i.1.length ≤ 17 ∧ LI texts ys i.2.2 i.2.1 i.1 ∧
    H = (it, .rit (i.1.length : Int) ((17 - i.1.length : Nat) : Int) 1) :: (rg, .rng 0 17 1) :: (td, .list (i.1.map toldV)) :: (hp, .list i.2.1) :: (D, .list (ms.map fun m => V.ref m.x)) :: (wd, .list W) :: (tx, .list (sV texts)) :: (T.tb, .tab1 c' tpos rdQ) :: machs Cl c' ms i.2.2) (fun i => 17 - i.1.length) ?_ ([], heapGo ltP 2 [pairV 1 4, pairV 1 3, pairV 1 2, pairV 1 1, pairV 1 0], texts.map fun t => (1, t)) ⟨rfl, by simp, LI_start hP, rfl⟩
  rintro ⟨done, heap, st⟩ ℓ H ⟨rfl, hd, hI, rfl⟩ ih
  dsimp only at hd hI ih ⊢
  refine Fo_step ?_
  by_cases hlt : done.length < 17
  · obtain ⟨i, n, r, p, tl, hi5, hheap, hst, hrl, hE, hN⟩ := LI_step hI hlt
    obtain ⟨hS, hl5, hst5⟩ := LI_S hI
    refine Nt_range (i := 1) rfl (by omega) ⟨_, rfl, ?_⟩
    refine Asn_name ?_
    apply exu
    case u => walk_at "up"
    refine Exs_cons ?_
    refine Ex_assign ?_
    repeat walk_at "ev"
    refine O_item (i := 4) (v := pairV n i) rfl (by omega) (by omega) (by rw [hheap]; rfl) ?_
    repeat walk_at "ev"
    refine O_itemT (v := .int i) (by omega) (by omega) rfl ?_
    repeat walk_at "ev"
    refine Ev_method ?_
    refine Ev_sub ?_
    refine Ev_cell (v := .ref D) (by walk_at "lk") ?_
    repeat walk_at "ev"
    have hm : ms[i]? = some (ms[i]'(by omega)) := List.getElem?_eq_getElem _
    generalize (ms[i]'(by omega)) = m at hm
    refine O_item (i := 5) (v := .ref m.x) rfl (by omega) (by omega) (by rw [Int.toNat_natCast, List.getElem?_map, hm]; rfl) ?_
    refine ⟨_, rfl, ?_⟩
    refine ⟨_, GM_inst (i := 5 * i + 9) (y := none) tc.cls (machs_get hm hst) hmT hoT dT.ne hocT o_token lexA_no2, .inr (.inr ⟨_, rfl⟩), ?_⟩
    refine Evs_nil ?_
    obtain ⟨R, hR, hR'⟩ := machs_perm (Cl := Cl) (c' := c') hm hst
    refine ⟨dT.callee _, ?_⟩
    refine Call.framed (token_call tq tc (k := k + 2) (m := m) (n := n) (rest := r) dT rm hrl) (perm_tok (A := [_, _, _, _, _, _, _, _]) (X := rd Cl c' m n r) hR) ?_
    rintro _ _ ⟨rfl, rfl⟩
    refine ⟨_, perm_tok' (X := rd Cl c' m (lexT n r).2.1 (lexT n r).2.2) (hR' (lexT n r).2), _, rfl, ?_⟩
    have hst2 : (st.set i (lexT n r).2)[i]? = some (lexT n r).2 := List.getElem?_set_self (by omega)
    repeat walk_at "ev"
    refine O_eqS (b := []) ?_
    repeat walk_at "ev"
    have hform : ∀ w, lexT n r = w → (lexT n r).2 = w.2 := fun w e => by rw [e]
    refine sb (fun hb => ?_) (fun hb => ?_)
    · have hw : (lexT n r).1 = [] := by simpa using hb
      obtain ⟨vs, last, hvl, hpop, hI'⟩ := hE hw
      have hSl : (∀ v ∈ vs, IsP v) ∧ IsP last := by
        rw [hvl] at hS
        exact ⟨fun v hv => hS v (List.mem_append_left _ hv), hS last (List.mem_append_right _ (.head _))⟩
      have hvs5 : vs.length ≤ 5 := by rw [hvl] at hl5; simp at hl5; omega
      clear hE hN
      rw [hvl]
      refine Exs_cons ?_
      refine Ex_expr ?_
      refine Ev_method ?_
      repeat walk_at "ev"
      refine ⟨_, GM_list (i := 3) rfl PySem.F.slot_list_append PySem.F.type_list_append, .inl ⟨_, rfl⟩, ?_⟩
      refine Evs_cons ?_
      refine Ev_tuple ?_
      refine Evs_cons ?_
      refine Ev_call ?_
      refine Ev_glob hgP tq.ng ?_
      refine ⟨_, rfl, ?_⟩
      repeat walk_at "ev"
      refine ⟨dP.callee _, Call.at (i := 4) (heappop_call tq.toTp (n := k) (lt := ltP) (S := IsP) (vs := vs) (last := last) dP (ltP_ok T) hSl.1 hSl.2 (by omega) (rm.le (by omega))) rfl ?_⟩
      rintro _ _ ⟨rfl, rfl⟩
      refine ⟨_, rfl, _, rfl, ?_⟩
      rw [hpop]
      repeat walk_at "ev"
      refine ⟨by simp, ?_⟩
      repeat walk_at "ev"
      refine ⟨.inl ⟨_, rfl⟩, Call_append (i := 3) rfl (by simp; omega) ?_⟩
      refine ⟨_, rfl, rfl, ?_⟩
      refine Exs_nil ?_
      refine Exs_nil ?_
      refine Fo.forget (ℓ' := [(sn "texts", .ref tx), (sn "words", .ref wd), (sn "machines", .ref D), (sn "heap", .ref hp), (sn "told", .ref td)]) (Sub_cons (Sub_cons (Sub_cons (Sub_cons (Sub_cons Sub_nil))))) ?_
      refine ih (done ++ [([n, (i : Int), p], [.str (S [])])], (popH ltP vs last).2, st.set i (lexT n r).2) _ _ (by simp; omega) ⟨rfl, by simp; omega, hI', ?_⟩
      rw [hw]
      have e1 : ((17 - done.length : Nat) : Int) - 1 = ((17 - (done ++ [(([n, (i : Int), p], [V.str (S [])]) : KT)]).length : Nat) : Int) := by simp; omega
      have e2 : (done.length : Int) + 1 = ((done ++ [(([n, (i : Int), p], [V.str (S [])]) : KT)]).length : Int) := by simp
      simp only [List.map_append]
      rw [← e1, ← e2]
      rfl
    · have hw : (lexT n r).1 ≠ [] := by simpa using hb
      have hI' := hN hw
      have hSl : ∀ v ∈ tl, IsP v := fun v hv => hS v (by rw [hheap]; exact .tail _ hv)
      have hvs5 : tl.length ≤ 5 := by rw [hheap] at hl5; simp at hl5; omega
      clear hE hN
      rw [hheap]
      refine Exs_cons ?_
      refine Ex_expr ?_
      refine Ev_method ?_
      repeat walk_at "ev"
      refine ⟨_, GM_list (i := 3) rfl PySem.F.slot_list_append PySem.F.type_list_append, .inl ⟨_, rfl⟩, ?_⟩
      refine Evs_cons ?_
      refine Ev_tuple ?_
      refine Evs_cons ?_
      refine Ev_call ?_
      refine Ev_glob hgR tq.ng ?_
      refine ⟨_, rfl, ?_⟩
      repeat walk_at "ev"
      refine Ev_attr tc.cls tc.lineno o_lineno ?_
      refine Ev_sub ?_
      refine Ev_cell (v := .ref D) (by walk_at "lk") ?_
      repeat walk_at "ev"
      refine O_item (i := 5) (v := .ref m.x) rfl (by omega) (by omega) (by rw [Int.toNat_natCast, List.getElem?_map, hm]; rfl) ?_
      refine ⟨_, rfl, ?_⟩
      refine ⟨m.x, 5 * i + 8, m.d, _, .int (lexT n r).2.1, rfl, machs_get hm hst2, by walk_at "lk", (fun id e => nomatch e), ?_⟩
      repeat walk_at "ev"
      refine ⟨by simp, ?_⟩
      repeat walk_at "ev"
      refine ⟨dR.callee _, Call.at (i := 4) (heapreplace_call tq.toTp (n := k) (lt := ltP) (S := IsP) (vs := tl) (v0 := pairV n i) (x := pairV (lexT n r).2.1 i) dR (ltP_ok T) hSl ⟨_, _, rfl⟩ (by omega) (rm.le (by omega))) rfl ?_⟩
      rintro _ _ ⟨rfl, rfl⟩
      refine ⟨_, rfl, _, rfl, ?_⟩
      repeat walk_at "ev"
      refine ⟨by simp, ?_⟩
      repeat walk_at "ev"
      refine ⟨.inl ⟨_, rfl⟩, Call_append (i := 3) rfl (by simp; omega) ?_⟩
      refine ⟨_, rfl, rfl, ?_⟩
      refine Exs_nil ?_
      refine Exs_nil ?_
      refine Fo.forget (ℓ' := [(sn "texts", .ref tx), (sn "words", .ref wd), (sn "machines", .ref D), (sn "heap", .ref hp), (sn "told", .ref td)]) (Sub_cons (Sub_cons (Sub_cons (Sub_cons (Sub_cons Sub_nil))))) ?_
      refine ih (done ++ [([n, (i : Int), p], [.str (S (lexT n r).1)])], siftup ltP 0 (pairV (lexT n r).2.1 i :: tl), st.set i (lexT n r).2) _ _ (by simp; omega) ⟨rfl, by simp; omega, hI', ?_⟩
      have e1 : ((17 - done.length : Nat) : Int) - 1 = ((17 - (done ++ [(([n, (i : Int), p], [V.str (S (lexT n r).1)]) : KT)]).length : Nat) : Int) := by simp; omega
      have e2 : (done.length : Int) + 1 = ((done ++ [(([n, (i : Int), p], [V.str (S (lexT n r).1)]) : KT)]).length : Int) := by simp
      simp only [List.map_append]
      rw [← e1, ← e2]
      rfl
  · have hd17 : done.length = 17 := by omega
    obtain ⟨rfl, rfl, hst⟩ := LI_end hI hd17
    refine Nt_range_end (i := 1) rm rfl (by omega) ⟨_, rfl, ?_⟩
    refine Exs_nil ?_
    refine Exs.drop (List.sublist_cons_self _ _) ?_
    exact h st hst
end
section
open PySem PySem.Spec PySem.Calls PyProof.Rows PySem.P

variable {T : TI} {A : Around} {Cl N : Addr} {mN : Str → Option Value}
theorem Lv_told {y : KT} (h : shp y) : Lv 2 (toldV y) := by
  obtain ⟨r, w, p, z, rfl⟩ := h
  refine Lv.tup 1 _ fun v hv => ?_
  simp only [List.mem_cons, List.not_mem_nil, or_false] at hv
  rcases hv with rfl | rfl
  · refine Lv.tup 0 _ fun v hv => ?_
    simp only [List.mem_cons, List.not_mem_nil, or_false] at hv
    rcases hv with rfl | rfl <;> exact .int _ _
  · exact .str _ _
theorem law_end (tq : Tq T) (tc : Tc T Cl N mN) {k : Nat} {L a tx wd D c' hp td : Addr} {pm cd : Value} {texts : List (List Nat)} {ys : List KT} {ms : List MA} {st : List (Int × List Nat)} (rm : Rm A (k + 10)) (hms : ms.length = 5) (hP : Prs texts ys) (hst : st.map (·.1) = texts.map endN) :
    Exs T A (lawE pm cd L a) [(sn "texts", .ref tx), (sn "words", .ref wd), (sn "machines", .ref D), (sn "heap", .ref hp), (sn "told", .ref td)] ((td, .list (ys.map toldV)) :: (hp, .list []) :: (D, .list (ms.map fun m => V.ref m.x)) :: (wd, .list (ys.map tupK)) :: (tx, .list (sV texts)) :: (T.tb, .tab1 c' tpos rdQ) :: machs Cl c' ms st) ((fdB (stAt Pr 13)).drop 8) (fin T) := by
  have h17 := hP.n17
  have ht5 := hP.len
  have hs5 : st.length = 5 := by have := congrArg List.length hst; simp at this; omega
  refine Exs_cons ?_
  refine Ex_if ?_
  refine Tr_compare ?_
  refine Ev_name (v := .ref td) (by walk_at "lk") ?_
  refine Ev_comp [] ?_
  refine Ev_name (v := .ref wd) (by walk_at "lk") ?_
  refine Itr.swap (Itr_list (j := 4) rfl fun it => ⟨_, _, rfl, fun D2 LC => ⟨Self_lit (i := 3) rfl, ?_⟩⟩)
  refine Cm_ind (ι := Nat) (fun i ℓ H => ℓ = [] ∧ i ≤ 17 ∧ H = lc (lawE pm cd L a) [(sn "texts", .ref tx), (sn "words", .ref wd), (sn "machines", .ref D), (sn "heap", .ref hp), (sn "told", .ref td)] :: (D2, .list ((ys.take i).map toldV)) :: (it, .lit wd i) :: (td, .list (ys.map toldV)) :: (hp, .list []) :: (D, .list (ms.map fun m => V.ref m.x)) :: (wd, .list (ys.map tupK)) :: (tx, .list (sV texts)) :: (T.tb, .tab1 c' tpos rdQ) :: machs Cl c' ms st) (fun i => 17 - i) ?_ 0 ⟨rfl, by omega, rfl⟩
  rintro i ℓ H ⟨rfl, hi, rfl⟩ ih
  refine Cm_step ?_
  by_cases hlt : i < 17
  · have hy : ys[i]? = some (ys[i]'(by omega)) := List.getElem?_eq_getElem _
    have hsh : shp (ys[i]'(by omega)) := hP.shape _ (List.getElem_mem _)
    have htk : ys.take (i + 1) = ys.take i ++ [ys[i]'(by omega)] := by rw [List.take_add_one, hy]; rfl
    generalize (ys[i]'(by omega)) = y at hy hsh htk
    obtain ⟨r, w, p, z, rfl⟩ := hsh
    refine Nt_list (i := 3) (j := 7) (v := tupK ([r, w, p], [V.str z])) rfl rfl (by rw [List.getElem?_map, hy]; rfl) ⟨_, rfl, ?_⟩
    refine Asn_tuple (vs := [.int r, .int w, .int p, .str z]) rm (Asns_cons (Asn_name ?_))
    apply exu
    case u => walk_at "up"
    refine Asns_cons (Asn_name ?_)
    apply exu
    case u => walk_at "up"
    refine Asns_cons (Asn_name ?_)
    apply exu
    case u => walk_at "up"
    refine Asns_cons (Asn_name ?_)
    apply exu
    case u => walk_at "up"
    refine Asns_nil ?_
    repeat walk_at "ev"
    refine ⟨by simp, ?_⟩
    repeat walk_at "ev"
    refine ⟨by simp, ?_⟩
    refine ⟨1, _, rfl, by simp; omega, ?_⟩
    refine Cm.forget (ℓ' := []) Sub_nil ?_
    refine ih (i + 1) _ _ (by omega) ⟨rfl, hlt, ?_⟩
    rw [htk, List.map_append]
    rfl
  · have hi17 : i = 17 := by omega
    subst hi17
    refine Nt_list_end (i := 3) (j := 7) rm rfl rfl (by simp [h17]) ⟨_, rfl, ?_⟩
    clear ih
    rw [List.take_of_length_le (by omega)]
    refine ⟨_, rfl, ?_⟩
    refine O_nel (n := 2) (i := 2) (j := 1) (vs := ys.map toldV) (rm.le (by omega)) rfl rfl (fun v hv => ?_) ?_
    · obtain ⟨y, hy, rfl⟩ := List.mem_map.mp hv
      exact Lv_told (hP.shape y hy)
    refine ⟨_, rfl, _, rfl, ?_⟩
    refine sbF ?_
    refine Exs_nil ?_
    refine Exs_cons ?_
    refine Ex_return ?_
    refine Ev_and ?_
    refine Ev_compare ?_
    refine Ev_name (v := .ref hp) (by walk_at "lk") ?_
    refine Ev_list ?_
    refine Evs_nil ?_
    refine ⟨by simp, fun em => ?_⟩
    refine O_eql (n := 0) (i := 4) (j := 1) (vs := []) (rm.le (by omega)) rfl rfl (fun v hv => nomatch hv) ?_
    refine ⟨_, rfl, ?_⟩
    refine T_bool ?_
    refine ⟨_, rfl, ?_⟩
    refine sbT ?_
    refine Ev_compare ?_
    refine Ev_comp [] ?_
    refine Ev_cell (v := .ref D) (by walk_at "lk") ?_
    refine Itr.swap (Itr_list (j := 5) rfl fun it2 => ⟨_, _, rfl, fun D3 LC3 => ⟨Self_lit (i := 3) rfl, ?_⟩⟩)
    refine Cm_ind (ι := Nat) (fun i ℓ H => ℓ = [] ∧ i ≤ 5 ∧ H = lc (lawE pm cd L a) [(sn "texts", .ref tx), (sn "words", .ref wd), (sn "machines", .ref D), (sn "heap", .ref hp), (sn "told", .ref td)] :: (D3, .list (((texts.take i).map endN).map V.int)) :: (it2, .lit D i) :: (em, .list []) :: (D2, .list (ys.map toldV)) :: (td, .list (ys.map toldV)) :: (hp, .list []) :: (D, .list (ms.map fun m => V.ref m.x)) :: (wd, .list (ys.map tupK)) :: (tx, .list (sV texts)) :: (T.tb, .tab1 c' tpos rdQ) :: machs Cl c' ms st) (fun i => 5 - i) ?_ 0 ⟨rfl, by omega, rfl⟩
    rintro i ℓ H ⟨rfl, hi, rfl⟩ ih
    refine Cm_step ?_
    by_cases hlt : i < 5
    · have hm : ms[i]? = some (ms[i]'(by omega)) := List.getElem?_eq_getElem _
      generalize (ms[i]'(by omega)) = m at hm
      refine Nt_list (i := 3) (j := 8) (v := .ref m.x) rfl rfl (by rw [List.getElem?_map, hm]; rfl) ⟨_, rfl, ?_⟩
      refine Asn_name ?_
      apply exu
      case u => walk_at "up"
      refine Ev_attr tc.cls tc.lineno o_lineno ?_
      repeat walk_at "ev"
      have hq : st[i]? = some (st[i]'(by omega)) := List.getElem?_eq_getElem _
      have hqe : (st[i]'(by omega)).1 = endN (texts[i]'(by omega)) := by
        have := congrArg (·[i]?) hst
        simp only [List.getElem?_map, hq, List.getElem?_eq_getElem (show i < texts.length by omega), Option.map_some] at this
        exact Option.some.inj this
      refine ⟨m.x, 5 * i + 11, m.d, _, .int (endN (texts[i]'(by omega))), rfl, machs_get hm hq, by rw [hqe]; walk_at "lk", (fun id e => nomatch e), ?_⟩
      refine ⟨1, _, rfl, by simp; omega, ?_⟩
      refine Cm.forget (ℓ' := []) Sub_nil ?_
      refine ih (i + 1) _ _ (by omega) ⟨rfl, hlt, ?_⟩
      have e1 : texts.take (i + 1) = texts.take i ++ [texts[i]'(by omega)] := by rw [List.take_add_one, List.getElem?_eq_getElem (by omega)]; rfl
      rw [e1, List.map_append, List.map_append]
      rfl
    · have hi5 : i = 5 := by omega
      subst hi5
      refine Nt_list_end (i := 3) (j := 8) rm rfl rfl (by simp [hms]) ⟨_, rfl, ?_⟩
      clear ih
      rw [List.take_of_length_le (by omega)]
      refine ⟨_, rfl, ?_⟩
      refine Ev_comp [] ?_
      refine Ev_name (v := .ref tx) (by walk_at "lk") ?_
      refine Itr.swap (Itr_list (j := 8) rfl fun it3 => ⟨_, _, rfl, fun D4 LC4 => ⟨Self_lit (i := 3) rfl, ?_⟩⟩)
      refine Cm_ind (ι := Nat) (fun i ℓ H => ℓ = [] ∧ i ≤ 5 ∧ H = lc (lawE pm cd L a) [(sn "texts", .ref tx), (sn "words", .ref wd), (sn "machines", .ref D), (sn "heap", .ref hp), (sn "told", .ref td)] :: (D4, .list (((texts.take i).map endN).map V.int)) :: (it3, .lit tx i) :: (D3, .list ((texts.map endN).map V.int)) :: (em, .list []) :: (D2, .list (ys.map toldV)) :: (td, .list (ys.map toldV)) :: (hp, .list []) :: (D, .list (ms.map fun m => V.ref m.x)) :: (wd, .list (ys.map tupK)) :: (tx, .list (sV texts)) :: (T.tb, .tab1 c' tpos rdQ) :: machs Cl c' ms st) (fun i => 5 - i) ?_ 0 ⟨rfl, by omega, rfl⟩
      rintro i ℓ H ⟨rfl, hi, rfl⟩ ih
      refine Cm_step ?_
      by_cases hlt : i < 5
      · have ht : texts[i]? = some (texts[i]'(by omega)) := List.getElem?_eq_getElem _
        have e1 : texts.take (i + 1) = texts.take i ++ [texts[i]'(by omega)] := by rw [List.take_add_one, ht]; rfl
        generalize (texts[i]'(by omega)) = t at ht e1
        refine Nt_list (i := 3) (j := 11) (v := .str (S t)) rfl rfl (by rw [sV, List.getElem?_map, ht]; rfl) ⟨_, rfl, ?_⟩
        refine Asn_name ?_
        apply exu
        case u => walk_at "up"
        refine Ev_binop ?_
        refine Ev_int ?_
        refine Ev_method ?_
        repeat walk_at "ev"
        refine ⟨_, GM_str PySem.F.slot_str_count PySem.F.type_str_count, .inl ⟨_, rfl⟩, ?_⟩
        repeat walk_at "ev"
        refine ⟨.inl ⟨_, rfl⟩, Call_count (c := 10) ?_⟩
        repeat walk_at "ev"
        refine ⟨1, _, rfl, by simp; omega, ?_⟩
        refine Cm.forget (ℓ' := []) Sub_nil ?_
        refine ih (i + 1) _ _ (by omega) ⟨rfl, hlt, ?_⟩
        rw [e1, List.map_append, List.map_append]
        rfl
      · have hi5 : i = 5 := by omega
        subst hi5
        refine Nt_list_end (i := 3) (j := 11) rm rfl rfl (by simp [sV, ht5]) ⟨_, rfl, ?_⟩
        clear ih
        rw [List.take_of_length_le (by omega)]
        refine ⟨_, rfl, ?_⟩
        refine O_eql (n := 0) (i := 2) (j := 1) (vs := (texts.map endN).map V.int) (rm.le (by omega)) rfl rfl (fun v hv => ?_) ?_
        · obtain ⟨y, hy, rfl⟩ := List.mem_map.mp hv
          exact .int _ _
        refine ⟨_, rfl, ?_⟩
        refine ⟨rfl, c', ?_⟩
        simp
end
section
open PySem PySem.Spec PySem.Calls PyProof.Rows PySem.P
noncomputable def fixd : List Nat := [108, 1280, 1213, 801, 555, 2389, 56, 1924, 1900, 1768, 692, 431]
noncomputable def md6 (x : Int) : Nat := (x.fmod 1000000).toNat
noncomputable def figsOf (l : List Int) : List Nat := ((l.take 63).map md6 ++ fixd).take 12
theorem md6_eq (x : Int) : x.fmod 1000000 = (md6 x : Int) := by
  have : 0 ≤ x.fmod 1000000 := Int.fmod_nonneg_of_pos x (by omega)
  unfold md6; omega
theorem iV_app (a b : List Nat) : iV (a ++ b) = iV a ++ iV b := List.map_append
theorem figs_len (l : List Int) : (figsOf l).length = 12 := by
  unfold figsOf
  rw [List.length_take, List.length_append]
  have : fixd.length = 12 := rfl
  omega
theorem figs_lt (l : List Int) : ∀ f ∈ figsOf l, f < 1000000 := by
  intro f hf
  unfold figsOf at hf
  have h1 := List.mem_of_mem_take hf
  rcases List.mem_append.mp h1 with h | h
  · obtain ⟨x, _, rfl⟩ := List.mem_map.mp h
    have h1 : x.fmod 1000000 < 1000000 := Int.fmod_lt_of_pos x (by omega)
    have h2 := md6_eq x
    omega
  · have : ∀ f ∈ fixd, f < 1000000 := by decide
    exact this f h
theorem iV_take (a : List Nat) (n : Nat) : iV (a.take n) = (iV a).take n := List.map_take
variable {T : TI} {A : Around} {Cl N : Addr} {mN : Str → Option Value}
theorem law_call (tq : Tq T) (tc : Tc T Cl N mN) {mg : Str → Option Value} (tn : Tn T mg Cl) {k : Nat} {l : List Int} {Sx a : Addr} {pm cd : Value}
    (files : ∃ a pm cd, GlobIs T (sn "_law_files") (.ref a) ∧ DefAt T a (fdOf (sn "_law_files") pm cd (stAt Pr 12)) (fdB (stAt Pr 12)))
    (written : ∃ a pm cd, GlobIs T (sn "_law_written") (.ref a) ∧ DefAt T a (fdOf (sn "_law_written") pm cd (stAt Pr 11)) (fdB (stAt Pr 11)))
    (d : DefAt T a (lawFd pm cd) (fdB (stAt Pr 13))) (rm : Rm A (k + 30)) (hS : TopInts T Sx l) (hl : l.length ≤ 10000000) :
    Call T A [(T.tb, .tab)] (.ref a) [.ref Sx] (fun v C' => v = .bool true ∧ ∃ c', C' = [(T.tb, .tab1 c' tpos rdQ)]) := by
  refine (CallC_cell1 (n := k + 29) (p := sn "script") (y := sn "machines") d rm (fun x => by kernel_rfl) rfl (by kernel_rfl) (fun k => by rfl) (by kernel_rfl) fun L => ?_).call
  have rm' := rm.deeper (callEnvC (lawFd pm cd) L a)
  generalize A.deeper (callEnvC (lawFd pm cd) L a) = A' at rm' ⊢
  obtain ⟨aF, pmF, cdF, hgF, dF⟩ := files
  obtain ⟨aW, pmW, cdW, hgW, dW⟩ := written
  refine Exs_cons ?_
  refine Ex_assign ?_
  refine Ev_list ?_
  repeat walk_at "ev"
  refine ⟨by simp, fun FX => ?_⟩
  apply exu
  case u => walk_at "up"
  refine Exs_cons ?_
  refine Ex_assign ?_
  refine Ev_upto ?_
  refine Ev_binop ?_
  refine Ev_comp [] ?_
  refine Ev_upto ?_
  repeat walk_at "ev"
  refine OpU.swap (O_upto_top hS (by omega) hl fun b => ⟨_, _, rfl, ?_⟩)
  refine Itr.swap (Itr_list (j := 1) rfl fun it => ⟨_, _, rfl, fun D LC => ⟨Self_lit (i := 3) rfl, ?_⟩⟩)
  refine Cm_ind (ι := Nat) (fun i ℓ H => ℓ = [] ∧ H = [lc (callEnvC (lawFd pm cd) L a) [(sn "script", V.ref Sx), (sn "fixed", V.ref FX)], (D, .list (iV (((l.take 63).take i).map md6))), (it, .lit b i), (b, .list (zV (l.take 63))), (FX, .list (iV fixd)), (T.tb, .tab)] ∧ i ≤ (l.take 63).length) (fun i => (l.take 63).length - i) ?_ 0 ⟨rfl, rfl, by simp⟩
  rintro i ℓ H ⟨rfl, rfl, hi⟩ ih
  refine Cm_step ?_
  by_cases hlt : i < (l.take 63).length
  · refine Nt_list (i := 3) (j := 4) (v := .int (l.take 63)[i]) rfl rfl (by rw [zV, List.getElem?_map, List.getElem?_eq_getElem hlt]; rfl) ⟨_, rfl, ?_⟩
    refine Asn_name ?_
    repeat walk_at "ev"
    refine O_pow (by omega) (by omega) (by decide) ?_
    repeat walk_at "ev"
    refine O_fmod (by decide) ?_
    rw [show ((10 : Int) ^ (6 : Int).toNat) = 1000000 from by decide, md6_eq]
    refine ⟨_, rfl, 1, _, rfl, by simp [iV]; omega, ?_⟩
    refine Cm.forget (ℓ' := []) Sub_nil ?_
    refine ih (i + 1) _ _ (by omega) ⟨rfl, ?_, hlt⟩
    have e1 : (l.take 63).take (i + 1) = (l.take 63).take i ++ [(l.take 63)[i]] := by
      rw [List.take_add_one, List.getElem?_eq_getElem hlt]; rfl
    rw [e1, List.map_append, iV_app]
    rfl
  · have hie : i = (l.take 63).length := by omega
    subst hie
    refine Nt_list_end (i := 3) (j := 4) rm' rfl rfl (by simp [zV]) ⟨_, rfl, ?_⟩
    clear ih
    rw [List.take_length]
    refine ⟨_, rfl, ?_⟩
    repeat walk_at "ev"
    have hl63 : (l.take 63).length ≤ 63 := by simp; omega
    refine OpB.swap (O_addl (i := 1) (j := 3) rfl rfl (by simp only [iV, List.length_map]; have : fixd.length = 12 := rfl; omega) fun c => ⟨_, _, rfl, ?_⟩)
    repeat walk_at "ev"
    refine OpU.swap (O_upto_list (i := 1) rfl (by omega) (by simp only [iV, List.length_map, List.length_append]; have : fixd.length = 12 := rfl; omega) fun F => ⟨_, _, rfl, ?_⟩)
    have hfig : (iV ((l.take 63).map md6) ++ iV fixd).take (Int.toNat 12) = iV (figsOf l) := by
      unfold figsOf
      rw [iV_take, iV_app]; rfl
    rw [hfig]
    repeat walk_at "ev"
    refine Ex_assignT ?_
    refine Ev_call ?_
    refine Ev_glob hgF tq.ng ?_
    refine ⟨_, rfl, ?_⟩
    repeat walk_at "ev"
    refine ⟨dF.callee _, ?_⟩
    refine Call.framed (files_call tq (k := k + 25) (figs := figsOf l) (F := F) (K := fun v C' => ∃ (tx wd : Addr) (ys : List KT), ys.Perm (fFin (fGo fs0 0 (figsOf l)) 0 5).words ∧ ys.Pairwise (fun x y => lexB x.1 y.1 = true) ∧ v = .tup [.ref tx, .ref wd] ∧ C' = [(wd, .list (ys.map tupK)), (tx, .list (sV (fFin (fGo fs0 0 (figsOf l)) 0 5).texts)), (F, .list (iV (figsOf l)))])
      dF hgW dW rm' (by rw [figs_len]; omega) (figs_lt l) (fun tx wd ys hp hs => ⟨tx, wd, ys, hp, hs, rfl, rfl⟩)) (List.perm_middle (l₁ := [_])) ?_
    rintro _ _ ⟨tx, wd, ys, hp, hs, rfl, rfl⟩
    refine ⟨_, List.perm_middle (l₁ := [_, _, _]), _, rfl, ?_⟩
    have hP := files_ok (figs_len l) hp hs
    refine Asn_tuple rm' (Asns_cons (Asn_name ?_))
    apply exu
    case u => walk_at "up"
    refine Asns_cons (Asn_name ?_)
    apply exu
    case u => walk_at "up"
    refine Asns_nil ?_
    refine Exs.forget (ℓ' := [(sn "texts", .ref tx), (sn "words", .ref wd)]) ?_ ?_
    · intro x v hx
      rw [List.lookup_cons] at hx
      cases h1 : x == sn "texts" with
      | true =>
        rw [h1] at hx
        cases beq_iff_eq.mp h1
        cases hx
        walk_at "lk"
      | false =>
        rw [h1, List.lookup_cons] at hx
        cases h2 : x == sn "words" with
        | true =>
          rw [h2] at hx
          cases beq_iff_eq.mp h2
          cases hx
          walk_at "lk"
        | false => rw [h2] at hx; cases hx
    refine Exs.drop (H' := [(wd, .list (ys.map tupK)), (tx, .list (sV (fFin (fGo fs0 0 (figsOf l)) 0 5).texts)), (T.tb, .tab)]) ?_ ?_
    · refine List.Sublist.cons_cons _ (List.Sublist.cons_cons _ ?_)
      refine List.singleton_sublist.mpr ?_
      simp
    refine Exs.mono (K := fin T) ?_ ?_
    · refine law_machines tq tc tn (k := k + 19) rm' hP.len hP.size fun D c' ms hms => ?_
      refine law_heap tq tc (k := k + 19) rm' hP.len hms fun hp td => ?_
      refine law_loop tq tc (k := k + 19) rm' hP.len hms hP fun st hst => ?_
      exact law_end tq tc (k := k + 19) rm' hms hP hst
    · rintro fl ℓ H ⟨rfl, c', hc⟩
      exact ⟨_, Turn.one hc, rfl, c', rfl⟩
end
section
open PySem PySem.Spec PySem.Calls PyProof.Rows PySem.P PySem.W
theorem good_end {c : ClaimW} {cl : Str → Option Addr} {mean : ExcName → Option Value} {args : List WData} {s₁ s' : Shared} {T : TI} {h0 : Heap} {C : Cs} {x : Value} {pos : Pos} {q : Str} (hT : T.h₁ = s₁.heap) (ho : T.os = s₁.os) (hr : ∀ cls, c.raises args cls = false) (hp : c.post args (.bool true) args = true)
    (p : PostG T C h0 Rel (fun v C' => v = .bool true ∧ ∃ c', C' = [(T.tb, .tab1 c' pos q)]) x s') : GoodWG c cl mean args s₁ (.ok (.ret x)) s' := by
  obtain ⟨v, _, ⟨rfl, c', rfl⟩, r, k, g⟩ := p
  cases r
  obtain ⟨ht, htb, _⟩ := k.cells _ (.head _)
  refine ⟨.inl ⟨_, _, [], rfl, hr, ReadsW.bool true, hp, fun _ => ⟨List.nodup_nil, fun _ hm => (nomatch hm)⟩⟩, ⟨fun b o e => ?_, fun b o e => ?_⟩, k.os.trans ho, .of_eq k.gens⟩
  · rw [← hT] at e
    by_cases hb : b = T.tb
    · subst hb
      have e2 := ht.2
      rw [e] at e2
      cases e2
      refine .inr (.inl ⟨hT ▸ ht.isCodeTable, rfl, _, #[rawInt pos.line, rawInt pos.col, Value.ref c'], rfl, ?_⟩)
      rw [htb]
      simp
      rfl
    · exact .inl (k.top b o e hb)
  · rw [← hT] at e
    by_cases hb : b = T.tb
    · subst hb; exact ⟨_, htb⟩
    · exact ⟨o, k.top b o e hb⟩
theorem defAt_of {T : TI} {K : Frag} {a c : Addr} {q : Str} {pm : Value} {st : Stmt} {o oc : Obj} {vs : Array Value} {t : Tok} (X : K.In T.h₁) (lim : Lim T) (h1 : K.lookup a = some o) (h2 : o.data = .func (fdOf q pm (.ref c) st)) (ne : a ≠ T.tb) (h3 : K.lookup c = some oc) (h4 : oc.data = .fields vs) (nc : c ≠ T.tb)
    (h5 : vs[1]? = some (.str (fdOf q pm (.ref c) st).qualname t)) (hc : (fdOf q pm (.ref c) st).code = .ref c) (hb : (fdOf q pm (.ref c) st).body = .stmts (fdB st)) : DefAt T a (fdOf q pm (.ref c) st) (fdB st) :=
  ⟨⟨o, X _ _ h1, h2⟩, ne, lim, ⟨c, oc, vs, t, hc, nc, X _ _ h3, h4, h5⟩, hb⟩
theorem topInts_of {T : TI} {a : Addr} {l : List Int} {items : List Value} (hne : a ≠ T.tb) (hl : T.h₁.IsList a items.toArray) (hi : IntsAre items l) : TopInts T a l := by
  refine ⟨hne, _, hl, ?_⟩
  rw [List.toList_toArray]
  clear hl
  induction hi with
  | nil => rfl
  | cons _ _ _ ih => exact ⟨_, _, rfl, ⟨_, rfl⟩, ih⟩
theorem mg_is {K : Frag} {T : TI} {N : Addr} {mN : Str → Option Value} {n : Str} {v : Value} (X : K.In T.h₁) (G : T.h₁.Ns N mN) (e : nsIn K N n = some (some v)) : mN n = some v := by
  obtain ⟨o, es, ep, ho, hd, _, hf⟩ := G
  unfold nsIn at e
  split at e
  · rename_i c d es' n' sl q
    have := X _ _ q
    rw [ho] at this
    cases this
    cases hd
    split at e
    · rename_i en he
      cases e
      rw [← hf]
      unfold nsFind findBy
      rw [← Array.find?_toList, he]
      rfl
    · split at e <;> cases e
  · cases e
end
section
open PySem PySem.Spec PySem.Calls PyProof.Rows PySem.P PySem.W
noncomputable def KK (P : Params) : PySem.W.Frag :=
  [(3, { cls := Value.type "dict", data := Data.dict #[{ hash := PyData.keyHash P (Str.ofString "__name__"), key := Value.str (Str.ofString "__name__") 165, val := Value.str (Str.ofString "law_mr0160_01") 308 }, { hash := PyData.keyHash P (Str.ofString "__doc__"), key := Value.str (Str.ofString "__doc__") 166, val := Value.none }, { hash := PyData.keyHash P (Str.ofString "__package__"), key := Value.str (Str.ofString "__package__") 167, val := Value.none }, { hash := PyData.keyHash P (Str.ofString "__loader__"), key := Value.str (Str.ofString "__loader__") 168, val := Value.builtin "__main__.__loader__#opaque" }, { hash := PyData.keyHash P (Str.ofString "__spec__"), key := Value.str (Str.ofString "__spec__") 169, val := Value.none }, { hash := PyData.keyHash P (Str.ofString "__annotations__"), key := Value.str (Str.ofString "__annotations__") 170, val := Value.ref 6 }, { hash := PyData.keyHash P (Str.ofString "__builtins__"), key := Value.str (Str.ofString "__builtins__") 171, val := Value.ref 4 }, { hash := PyData.keyHash P (Str.ofString "__file__"), key := Value.str (Str.ofString "__file__") 173, val := Value.str (Str.ofString "/claim/cut.py") 172 }, { hash := PyData.keyHash P (Str.ofString "__cached__"), key := Value.str (Str.ofString "__cached__") 174, val := Value.none }, { hash := PyData.keyHash P (Str.ofString "_wall"), key := Value.str (Str.ofString "_wall") 193, val := Value.ref 21 }, { hash := PyData.keyHash P (Str.ofString "heappop"), key := Value.str (Str.ofString "heappop") 204, val := Value.ref 28 }, { hash := PyData.keyHash P (Str.ofString "heapreplace"), key := Value.str (Str.ofString "heapreplace") 213, val := Value.ref 35 }, { hash := PyData.keyHash P (Str.ofString "heapify"), key := Value.str (Str.ofString "heapify") 222, val := Value.ref 42 }, { hash := PyData.keyHash P (Str.ofString "_siftdown"), key := Value.str (Str.ofString "_siftdown") 234, val := Value.ref 49 }, { hash := PyData.keyHash P (Str.ofString "_siftup"), key := Value.str (Str.ofString "_siftup") 247, val := Value.ref 56 }, { hash := PyData.keyHash P (Str.ofString "_netrclex"), key := Value.str (Str.ofString "_netrclex") 307, val := Value.ref 94 }, { hash := PyData.keyHash P (Str.ofString "_law_tape"), key := Value.str (Str.ofString "_law_tape") 319, val := Value.ref 105 }, { hash := PyData.keyHash P (Str.ofString "_law_written"), key := Value.str (Str.ofString "_law_written") 331, val := Value.ref 112 }, { hash := PyData.keyHash P (Str.ofString "_law_files"), key := Value.str (Str.ofString "_law_files") 349, val := Value.ref 119 }, { hash := PyData.keyHash P (Str.ofString "law"), key := Value.str (Str.ofString "law") 355, val := Value.ref 124 }] 20 }),
   (27, { cls := Value.type "code", data := Data.fields #[Value.str (Str.ofString "heappop") 196, Value.str (Str.ofString "heappop") 197, Value.str (Str.ofString "/claim/cut.py") 198, Value.int 5 0, Value.int 1 0, Value.int 0 0, Value.int 0 0, Value.int 3 0, Value.ref 22, Value.bool true, Value.int 181 0, Value.ref 23, Value.none, Value.ref 24, Value.ref 25, Value.ref 26, Value.int 202 0, Value.int 5 0, Value.str (Str.ofString "/claim/cut.py") 203] }),
   (28, { cls := .type "function", data := .func (fdOf (Str.ofString "heappop") (.str (Str.ofString "cpy313.heapq") 194) (.ref 27) (stAt Pr 2)) }),
   (34, { cls := Value.type "code", data := Data.fields #[Value.str (Str.ofString "heapreplace") 205, Value.str (Str.ofString "heapreplace") 206, Value.str (Str.ofString "/claim/cut.py") 207, Value.int 13 0, Value.int 2 0, Value.int 0 0, Value.int 0 0, Value.int 3 0, Value.ref 29, Value.bool true, Value.int 181 0, Value.ref 30, Value.none, Value.ref 31, Value.ref 32, Value.ref 33, Value.int 211 0, Value.int 13 0, Value.str (Str.ofString "/claim/cut.py") 212] }),
   (35, { cls := .type "function", data := .func (fdOf (Str.ofString "heapreplace") (.str (Str.ofString "cpy313.heapq") 194) (.ref 34) (stAt Pr 3)) }),
   (41, { cls := Value.type "code", data := Data.fields #[Value.str (Str.ofString "heapify") 214, Value.str (Str.ofString "heapify") 215, Value.str (Str.ofString "/claim/cut.py") 216, Value.int 18 0, Value.int 1 0, Value.int 0 0, Value.int 0 0, Value.int 3 0, Value.ref 36, Value.bool true, Value.int 181 0, Value.ref 37, Value.none, Value.ref 38, Value.ref 39, Value.ref 40, Value.int 220 0, Value.int 18 0, Value.str (Str.ofString "/claim/cut.py") 221] }),
   (42, { cls := .type "function", data := .func (fdOf (Str.ofString "heapify") (.str (Str.ofString "cpy313.heapq") 194) (.ref 41) (stAt Pr 4)) }),
   (48, { cls := Value.type "code", data := Data.fields #[Value.str (Str.ofString "_siftdown") 223, Value.str (Str.ofString "_siftdown") 224, Value.str (Str.ofString "/claim/cut.py") 225, Value.int 22 0, Value.int 3 0, Value.int 0 0, Value.int 0 0, Value.int 3 0, Value.ref 43, Value.bool true, Value.int 181 0, Value.ref 44, Value.none, Value.ref 45, Value.ref 46, Value.ref 47, Value.int 232 0, Value.int 22 0, Value.str (Str.ofString "/claim/cut.py") 233] }),
   (49, { cls := .type "function", data := .func (fdOf (Str.ofString "_siftdown") (.str (Str.ofString "cpy313.heapq") 194) (.ref 48) (stAt Pr 5)) }),
   (55, { cls := Value.type "code", data := Data.fields #[Value.str (Str.ofString "_siftup") 235, Value.str (Str.ofString "_siftup") 236, Value.str (Str.ofString "/claim/cut.py") 237, Value.int 33 0, Value.int 2 0, Value.int 0 0, Value.int 0 0, Value.int 3 0, Value.ref 50, Value.bool true, Value.int 181 0, Value.ref 51, Value.none, Value.ref 52, Value.ref 53, Value.ref 54, Value.int 245 0, Value.int 33 0, Value.str (Str.ofString "/claim/cut.py") 246] }),
   (56, { cls := .type "function", data := .func (fdOf (Str.ofString "_siftup") (.str (Str.ofString "cpy313.heapq") 194) (.ref 55) (stAt Pr 6)) }),
   (69, { cls := Value.type "code", data := Data.fields #[Value.str (Str.ofString "__init__") 262, Value.str (Str.ofString "_netrclex.__init__") 263, Value.str (Str.ofString "/claim/cut.py") 264, Value.int 50 0, Value.int 2 0, Value.int 0 0, Value.int 0 0, Value.int 3 0, Value.ref 64, Value.bool true, Value.int 181 0, Value.ref 65, Value.none, Value.ref 66, Value.ref 67, Value.ref 68, Value.int 267 0, Value.int 50 0, Value.str (Str.ofString "/claim/cut.py") 268] }),
   (70, { cls := .type "function", data := .func (fdOf (Str.ofString "_netrclex.__init__") (.str (Str.ofString "cpy313.netrc") 248) (.ref 69) (mth 0)) }),
   (76, { cls := Value.type "code", data := Data.fields #[Value.str (Str.ofString "_read_char") 270, Value.str (Str.ofString "_netrclex._read_char") 271, Value.str (Str.ofString "/claim/cut.py") 272, Value.int 56 0, Value.int 1 0, Value.int 0 0, Value.int 0 0, Value.int 3 0, Value.ref 71, Value.bool true, Value.int 181 0, Value.ref 72, Value.none, Value.ref 73, Value.ref 74, Value.ref 75, Value.int 275 0, Value.int 56 0, Value.str (Str.ofString "/claim/cut.py") 276] }),
   (77, { cls := .type "function", data := .func (fdOf (Str.ofString "_netrclex._read_char") (.str (Str.ofString "cpy313.netrc") 248) (.ref 76) (mth 1)) }),
   (83, { cls := Value.type "code", data := Data.fields #[Value.str (Str.ofString "get_token") 278, Value.str (Str.ofString "_netrclex.get_token") 279, Value.str (Str.ofString "/claim/cut.py") 280, Value.int 62 0, Value.int 1 0, Value.int 0 0, Value.int 0 0, Value.int 3 0, Value.ref 78, Value.bool true, Value.int 181 0, Value.ref 79, Value.none, Value.ref 80, Value.ref 81, Value.ref 82, Value.int 285 0, Value.int 62 0, Value.str (Str.ofString "/claim/cut.py") 286] }),
   (84, { cls := .type "function", data := .func (fdOf (Str.ofString "_netrclex.get_token") (.str (Str.ofString "cpy313.netrc") 248) (.ref 83) (mth 2)) }),
   (93, { cls := Value.type "dict", data := Data.dict #[{ hash := PyData.keyHash P (Str.ofString "__module__"), key := Value.str (Str.ofString "__module__") 257, val := Value.str (Str.ofString "cpy313.netrc") 248 }, { hash := PyData.keyHash P (Str.ofString "__firstlineno__"), key := Value.str (Str.ofString "__firstlineno__") 261, val := Value.int 48 260 }, { hash := PyData.keyHash P (Str.ofString "__init__"), key := Value.str (Str.ofString "__init__") 269, val := Value.ref 70 }, { hash := PyData.keyHash P (Str.ofString "_read_char"), key := Value.str (Str.ofString "_read_char") 277, val := Value.ref 77 }, { hash := PyData.keyHash P (Str.ofString "get_token"), key := Value.str (Str.ofString "get_token") 287, val := Value.ref 84 }, { hash := PyData.keyHash P (Str.ofString "push_token"), key := Value.str (Str.ofString "push_token") 295, val := Value.ref 91 }, { hash := PyData.keyHash P (Str.ofString "__static_attributes__"), key := Value.str (Str.ofString "__static_attributes__") 300, val := Value.ref 92 }, { hash := PyData.keyHash P (Str.ofString "__dict__"), key := Value.str (Str.ofString "__dict__") 302, val := Value.ref 95 }, { hash := PyData.keyHash P (Str.ofString "__weakref__"), key := Value.str (Str.ofString "__weakref__") 304, val := Value.ref 96 }, { hash := PyData.keyHash P (Str.ofString "__doc__"), key := Value.str (Str.ofString "__doc__") 305, val := Value.none }] 4 }),
   (94, { cls := Value.type "type", data := Data.cls { name := "_netrclex", bases := [Value.type "object"], mro := [Value.ref 94, Value.type "object"], ns := 93, qualname := "_netrclex" }, slots := #[none, none, some (Value.str (Str.ofString "_netrclex") 250), some (Value.str (Str.ofString "_netrclex") 258), some (Value.builtin "object.__new__"), some (Value.bool true)] }),
   (104, { cls := Value.type "code", data := Data.fields #[Value.str (Str.ofString "_law_tape") 310, Value.str (Str.ofString "_law_tape") 311, Value.str (Str.ofString "/claim/cut.py") 312, Value.int 92 0, Value.int 1 0, Value.int 0 0, Value.int 0 0, Value.int 3 0, Value.ref 99, Value.bool true, Value.int 181 0, Value.ref 100, Value.none, Value.ref 101, Value.ref 102, Value.ref 103, Value.int 317 0, Value.int 92 0, Value.str (Str.ofString "/claim/cut.py") 318] }),
   (105, { cls := .type "function", data := .func (fdOf (Str.ofString "_law_tape") (.str (Str.ofString "law_mr0160_01") 308) (.ref 104) (stAt Pr 10)) }),
   (111, { cls := Value.type "code", data := Data.fields #[Value.str (Str.ofString "_law_written") 320, Value.str (Str.ofString "_law_written") 321, Value.str (Str.ofString "/claim/cut.py") 322, Value.int 102 0, Value.int 2 0, Value.int 0 0, Value.int 0 0, Value.int 3 0, Value.ref 106, Value.bool true, Value.int 181 0, Value.ref 107, Value.none, Value.ref 108, Value.ref 109, Value.ref 110, Value.int 329 0, Value.int 102 0, Value.str (Str.ofString "/claim/cut.py") 330] }),
   (112, { cls := .type "function", data := .func (fdOf (Str.ofString "_law_written") (.str (Str.ofString "law_mr0160_01") 308) (.ref 111) (stAt Pr 11)) }),
   (118, { cls := Value.type "code", data := Data.fields #[Value.str (Str.ofString "_law_files") 332, Value.str (Str.ofString "_law_files") 333, Value.str (Str.ofString "/claim/cut.py") 334, Value.int 111 0, Value.int 1 0, Value.int 0 0, Value.int 0 0, Value.int 3 0, Value.ref 113, Value.bool true, Value.int 181 0, Value.ref 114, Value.none, Value.ref 115, Value.ref 116, Value.ref 117, Value.int 347 0, Value.int 111 0, Value.str (Str.ofString "/claim/cut.py") 348] }),
   (119, { cls := .type "function", data := .func (fdOf (Str.ofString "_law_files") (.str (Str.ofString "law_mr0160_01") 308) (.ref 118) (stAt Pr 12)) }),
   (123, { cls := Value.type "code", data := Data.fields #[Value.str (Str.ofString "law") 350, Value.str (Str.ofString "law") 351, Value.str (Str.ofString "/claim/cut.py") 352, Value.int 130 0, Value.int 1 0, Value.int 0 0, Value.int 0 0, Value.int 3 0, Value.ref 120, Value.bool true, Value.int 181 0, Value.ref 121, Value.none, Value.none, Value.none, Value.ref 122, Value.int 353 0, Value.int 130 0, Value.str (Str.ofString "/claim/cut.py") 354] }),
   (124, { cls := .type "function", data := .func (fdOf (Str.ofString "law") (.str (Str.ofString "law_mr0160_01") 308) (.ref 123) (stAt Pr 13)) })]
noncomputable def KA : List Addr := [3, 27, 28, 34, 35, 41, 42, 48, 49, 55, 56, 69, 70, 76, 77, 83, 84, 93, 94, 104, 105, 111, 112, 118, 119, 123, 124]
/-- the text without its rows «__name__ = ..» -/
noncomputable def Qv : Program := { Pr with main := { Pr.main with body := [stAt Pr 0, stAt Pr 2, stAt Pr 3, stAt Pr 4, stAt Pr 5, stAt Pr 6, stAt Pr 8, stAt Pr 10, stAt Pr 11, stAt Pr 12, stAt Pr 13] } }
theorem ws : PySem.Challenge.rw_mr0160_01.wellSaid = true := by
  delta OpenLaw.wellSaid OpenRow.wellSaid OpenRow.partSaid looksOpen
  first | rw [PySem.W.Fast.te8326940854005059898, PySem.W.Fast.te17119622794617984870] | skip
  repeat' (with_reducible refine look_both ?_ ?_)
  all_goals decide +kernel
noncomputable abbrev HH1 : Hook := kmHook KK KA (fun _ => by kernel_rfl) [100]
noncomputable def fd0 (q : Str) (s : Stmt) : FuncData := { fdOf q .none .none s with globals := 0, builtins := 0 }
noncomputable def ob13a (P : Params) : Obj := { cls := Value.type "code", data := Data.fields #[Value.str (Str.ofString "<module>") 182, Value.str (Str.ofString "<module>") 183, Value.str (Str.ofString "/claim/cut.py") 184, Value.int 1 0, Value.int 0 0, Value.int 0 0, Value.int 0 0, Value.int 0 0, Value.ref 11, Value.bool false, Value.int 181 0, Value.ref 12, Value.none, Value.none, Value.none, Value.none, Value.int 185 0, Value.int 1 0, Value.str (Str.ofString "/claim/cut.py") 186] }
noncomputable def ob14a (P : Params) : Obj := { cls := Value.type "frame", slots := #[some (Value.ref 13), some (Value.ref 3), some (Value.ref 3), none, some (Value.str (Str.ofString "__main__") 164), none, some (Value.ref 0)] }
noncomputable def ob31 (P : Params) : Obj := { cls := Value.type "dict", data := Data.dict #[{ hash := PyData.keyHash P (Str.ofString "__name__"), key := Value.str (Str.ofString "__name__") 165, val := Value.str (Str.ofString "cpy313.netrc") 248 }, { hash := PyData.keyHash P (Str.ofString "__doc__"), key := Value.str (Str.ofString "__doc__") 166, val := Value.none }, { hash := PyData.keyHash P (Str.ofString "__package__"), key := Value.str (Str.ofString "__package__") 167, val := Value.none }, { hash := PyData.keyHash P (Str.ofString "__loader__"), key := Value.str (Str.ofString "__loader__") 168, val := Value.builtin "__main__.__loader__#opaque" }, { hash := PyData.keyHash P (Str.ofString "__spec__"), key := Value.str (Str.ofString "__spec__") 169, val := Value.none }, { hash := PyData.keyHash P (Str.ofString "__annotations__"), key := Value.str (Str.ofString "__annotations__") 170, val := Value.ref 6 }, { hash := PyData.keyHash P (Str.ofString "__builtins__"), key := Value.str (Str.ofString "__builtins__") 171, val := Value.ref 4 }, { hash := PyData.keyHash P (Str.ofString "__file__"), key := Value.str (Str.ofString "__file__") 173, val := Value.str (Str.ofString "/claim/cut.py") 172 }, { hash := PyData.keyHash P (Str.ofString "__cached__"), key := Value.str (Str.ofString "__cached__") 174, val := Value.none }, { hash := PyData.keyHash P (Str.ofString "_wall"), key := Value.str (Str.ofString "_wall") 193, val := Value.ref 21 }, { hash := PyData.keyHash P (Str.ofString "heappop"), key := Value.str (Str.ofString "heappop") 204, val := Value.ref 28 }, { hash := PyData.keyHash P (Str.ofString "heapreplace"), key := Value.str (Str.ofString "heapreplace") 213, val := Value.ref 35 }, { hash := PyData.keyHash P (Str.ofString "heapify"), key := Value.str (Str.ofString "heapify") 222, val := Value.ref 42 }, { hash := PyData.keyHash P (Str.ofString "_siftdown"), key := Value.str (Str.ofString "_siftdown") 234, val := Value.ref 49 }, { hash := PyData.keyHash P (Str.ofString "_siftup"), key := Value.str (Str.ofString "_siftup") 247, val := Value.ref 56 }] 15 }
noncomputable def ob121 (P : Params) : Obj := { cls := Value.none, data := Data.fields #[Value.int 1 0, Value.int 0 0, Value.ref 20, Value.int 5 0, Value.int 0 0, Value.ref 27, Value.int 13 0, Value.int 0 0, Value.ref 34, Value.int 18 0, Value.int 0 0, Value.ref 41, Value.int 22 0, Value.int 0 0, Value.ref 48, Value.int 33 0, Value.int 0 0, Value.ref 55] }
noncomputable def ob171 (P : Params) : Obj := { cls := Value.type "tuple", data := Data.seq #[Value.str (Str.ofString "k") 190] }
noncomputable def ob191 (P : Params) : Obj := { cls := .none, data := .func (fd0 (Str.ofString "_wall") (stAt Pr 0)) }
noncomputable def ob201 (P : Params) : Obj := { cls := Value.type "code", data := Data.fields #[Value.str (Str.ofString "_wall") 187, Value.str (Str.ofString "_wall") 188, Value.str (Str.ofString "/claim/cut.py") 189, Value.int 1 0, Value.int 1 0, Value.int 0 0, Value.int 0 0, Value.int 3 0, Value.ref 15, Value.bool true, Value.int 181 0, Value.ref 16, Value.none, Value.ref 17, Value.ref 18, Value.ref 19, Value.int 191 0, Value.int 1 0, Value.str (Str.ofString "/claim/cut.py") 192] }
noncomputable def ob211 (P : Params) : Obj := { cls := .type "function", data := .func (fdOf (Str.ofString "_wall") (.str (Str.ofString "__main__") 164) (.ref 20) (stAt Pr 0)) }
noncomputable def ob241 (P : Params) : Obj := { cls := Value.type "tuple", data := Data.seq #[Value.str (Str.ofString "heap") 199, Value.str (Str.ofString "lastelt") 200, Value.str (Str.ofString "returnitem") 201] }
noncomputable def ob261 (P : Params) : Obj := { cls := .none, data := .func (fd0 (Str.ofString "heappop") (stAt Pr 2)) }
noncomputable def ob271 (P : Params) : Obj := { cls := Value.type "code", data := Data.fields #[Value.str (Str.ofString "heappop") 196, Value.str (Str.ofString "heappop") 197, Value.str (Str.ofString "/claim/cut.py") 198, Value.int 5 0, Value.int 1 0, Value.int 0 0, Value.int 0 0, Value.int 3 0, Value.ref 22, Value.bool true, Value.int 181 0, Value.ref 23, Value.none, Value.ref 24, Value.ref 25, Value.ref 26, Value.int 202 0, Value.int 5 0, Value.str (Str.ofString "/claim/cut.py") 203] }
noncomputable def ob281 (P : Params) : Obj := { cls := .type "function", data := .func (fdOf (Str.ofString "heappop") (.str (Str.ofString "cpy313.heapq") 194) (.ref 27) (stAt Pr 2)) }
noncomputable def ob311 (P : Params) : Obj := { cls := Value.type "tuple", data := Data.seq #[Value.str (Str.ofString "heap") 208, Value.str (Str.ofString "item") 209, Value.str (Str.ofString "returnitem") 210] }
noncomputable def ob331 (P : Params) : Obj := { cls := .none, data := .func (fd0 (Str.ofString "heapreplace") (stAt Pr 3)) }
noncomputable def ob341 (P : Params) : Obj := { cls := Value.type "code", data := Data.fields #[Value.str (Str.ofString "heapreplace") 205, Value.str (Str.ofString "heapreplace") 206, Value.str (Str.ofString "/claim/cut.py") 207, Value.int 13 0, Value.int 2 0, Value.int 0 0, Value.int 0 0, Value.int 3 0, Value.ref 29, Value.bool true, Value.int 181 0, Value.ref 30, Value.none, Value.ref 31, Value.ref 32, Value.ref 33, Value.int 211 0, Value.int 13 0, Value.str (Str.ofString "/claim/cut.py") 212] }
noncomputable def ob351 (P : Params) : Obj := { cls := .type "function", data := .func (fdOf (Str.ofString "heapreplace") (.str (Str.ofString "cpy313.heapq") 194) (.ref 34) (stAt Pr 3)) }
noncomputable def ob381 (P : Params) : Obj := { cls := Value.type "tuple", data := Data.seq #[Value.str (Str.ofString "x") 217, Value.str (Str.ofString "n") 218, Value.str (Str.ofString "i") 219] }
noncomputable def ob401 (P : Params) : Obj := { cls := .none, data := .func (fd0 (Str.ofString "heapify") (stAt Pr 4)) }
noncomputable def ob411 (P : Params) : Obj := { cls := Value.type "code", data := Data.fields #[Value.str (Str.ofString "heapify") 214, Value.str (Str.ofString "heapify") 215, Value.str (Str.ofString "/claim/cut.py") 216, Value.int 18 0, Value.int 1 0, Value.int 0 0, Value.int 0 0, Value.int 3 0, Value.ref 36, Value.bool true, Value.int 181 0, Value.ref 37, Value.none, Value.ref 38, Value.ref 39, Value.ref 40, Value.int 220 0, Value.int 18 0, Value.str (Str.ofString "/claim/cut.py") 221] }
noncomputable def ob421 (P : Params) : Obj := { cls := .type "function", data := .func (fdOf (Str.ofString "heapify") (.str (Str.ofString "cpy313.heapq") 194) (.ref 41) (stAt Pr 4)) }
noncomputable def ob451 (P : Params) : Obj := { cls := Value.type "tuple", data := Data.seq #[Value.str (Str.ofString "heap") 226, Value.str (Str.ofString "startpos") 227, Value.str (Str.ofString "pos") 228, Value.str (Str.ofString "newitem") 229, Value.str (Str.ofString "parentpos") 230, Value.str (Str.ofString "parent") 231] }
noncomputable def ob471 (P : Params) : Obj := { cls := .none, data := .func (fd0 (Str.ofString "_siftdown") (stAt Pr 5)) }
noncomputable def ob481 (P : Params) : Obj := { cls := Value.type "code", data := Data.fields #[Value.str (Str.ofString "_siftdown") 223, Value.str (Str.ofString "_siftdown") 224, Value.str (Str.ofString "/claim/cut.py") 225, Value.int 22 0, Value.int 3 0, Value.int 0 0, Value.int 0 0, Value.int 3 0, Value.ref 43, Value.bool true, Value.int 181 0, Value.ref 44, Value.none, Value.ref 45, Value.ref 46, Value.ref 47, Value.int 232 0, Value.int 22 0, Value.str (Str.ofString "/claim/cut.py") 233] }
noncomputable def ob491 (P : Params) : Obj := { cls := .type "function", data := .func (fdOf (Str.ofString "_siftdown") (.str (Str.ofString "cpy313.heapq") 194) (.ref 48) (stAt Pr 5)) }
noncomputable def ob521 (P : Params) : Obj := { cls := Value.type "tuple", data := Data.seq #[Value.str (Str.ofString "heap") 238, Value.str (Str.ofString "pos") 239, Value.str (Str.ofString "endpos") 240, Value.str (Str.ofString "startpos") 241, Value.str (Str.ofString "newitem") 242, Value.str (Str.ofString "childpos") 243, Value.str (Str.ofString "rightpos") 244] }
noncomputable def ob541 (P : Params) : Obj := { cls := .none, data := .func (fd0 (Str.ofString "_siftup") (stAt Pr 6)) }
noncomputable def ob551 (P : Params) : Obj := { cls := Value.type "code", data := Data.fields #[Value.str (Str.ofString "_siftup") 235, Value.str (Str.ofString "_siftup") 236, Value.str (Str.ofString "/claim/cut.py") 237, Value.int 33 0, Value.int 2 0, Value.int 0 0, Value.int 0 0, Value.int 3 0, Value.ref 50, Value.bool true, Value.int 181 0, Value.ref 51, Value.none, Value.ref 52, Value.ref 53, Value.ref 54, Value.int 245 0, Value.int 33 0, Value.str (Str.ofString "/claim/cut.py") 246] }
noncomputable def ob561 (P : Params) : Obj := { cls := .type "function", data := .func (fdOf (Str.ofString "_siftup") (.str (Str.ofString "cpy313.heapq") 194) (.ref 55) (stAt Pr 6)) }
noncomputable def ob32 (P : Params) : Obj := { cls := Value.type "dict", data := Data.dict #[{ hash := PyData.keyHash P (Str.ofString "__name__"), key := Value.str (Str.ofString "__name__") 165, val := Value.str (Str.ofString "law_mr0160_01") 308 }, { hash := PyData.keyHash P (Str.ofString "__doc__"), key := Value.str (Str.ofString "__doc__") 166, val := Value.none }, { hash := PyData.keyHash P (Str.ofString "__package__"), key := Value.str (Str.ofString "__package__") 167, val := Value.none }, { hash := PyData.keyHash P (Str.ofString "__loader__"), key := Value.str (Str.ofString "__loader__") 168, val := Value.builtin "__main__.__loader__#opaque" }, { hash := PyData.keyHash P (Str.ofString "__spec__"), key := Value.str (Str.ofString "__spec__") 169, val := Value.none }, { hash := PyData.keyHash P (Str.ofString "__annotations__"), key := Value.str (Str.ofString "__annotations__") 170, val := Value.ref 6 }, { hash := PyData.keyHash P (Str.ofString "__builtins__"), key := Value.str (Str.ofString "__builtins__") 171, val := Value.ref 4 }, { hash := PyData.keyHash P (Str.ofString "__file__"), key := Value.str (Str.ofString "__file__") 173, val := Value.str (Str.ofString "/claim/cut.py") 172 }, { hash := PyData.keyHash P (Str.ofString "__cached__"), key := Value.str (Str.ofString "__cached__") 174, val := Value.none }, { hash := PyData.keyHash P (Str.ofString "_wall"), key := Value.str (Str.ofString "_wall") 193, val := Value.ref 21 }, { hash := PyData.keyHash P (Str.ofString "heappop"), key := Value.str (Str.ofString "heappop") 204, val := Value.ref 28 }, { hash := PyData.keyHash P (Str.ofString "heapreplace"), key := Value.str (Str.ofString "heapreplace") 213, val := Value.ref 35 }, { hash := PyData.keyHash P (Str.ofString "heapify"), key := Value.str (Str.ofString "heapify") 222, val := Value.ref 42 }, { hash := PyData.keyHash P (Str.ofString "_siftdown"), key := Value.str (Str.ofString "_siftdown") 234, val := Value.ref 49 }, { hash := PyData.keyHash P (Str.ofString "_siftup"), key := Value.str (Str.ofString "_siftup") 247, val := Value.ref 56 }, { hash := PyData.keyHash P (Str.ofString "_netrclex"), key := Value.str (Str.ofString "_netrclex") 307, val := Value.ref 94 }, { hash := PyData.keyHash P (Str.ofString "_law_tape"), key := Value.str (Str.ofString "_law_tape") 319, val := Value.ref 105 }] 17 }
noncomputable def ob122 (P : Params) : Obj := { cls := Value.none, data := Data.fields #[Value.int 1 0, Value.int 0 0, Value.ref 20, Value.int 5 0, Value.int 0 0, Value.ref 27, Value.int 13 0, Value.int 0 0, Value.ref 34, Value.int 18 0, Value.int 0 0, Value.ref 41, Value.int 22 0, Value.int 0 0, Value.ref 48, Value.int 33 0, Value.int 0 0, Value.ref 55, Value.int 48 0, Value.int 0 0, Value.ref 62, Value.int 92 0, Value.int 0 0, Value.ref 104] }
noncomputable def ob582 (P : Params) : Obj := { cls := Value.type "builtin_function_or_method", data := Data.fields #[Value.builtin "type.__prepare__", Value.type "type"] }
noncomputable def ob592 (P : Params) : Obj := { cls := Value.type "dict", data := Data.dict #[{ hash := PyData.keyHash P (Str.ofString "__module__"), key := Value.str (Str.ofString "__module__") 257, val := Value.str (Str.ofString "cpy313.netrc") 248 }, { hash := PyData.keyHash P (Str.ofString "__qualname__"), key := Value.str (Str.ofString "__qualname__") 259, val := Value.str (Str.ofString "_netrclex") 258 }, { hash := PyData.keyHash P (Str.ofString "__firstlineno__"), key := Value.str (Str.ofString "__firstlineno__") 261, val := Value.int 48 260 }, { hash := PyData.keyHash P (Str.ofString "__init__"), key := Value.str (Str.ofString "__init__") 269, val := Value.ref 70 }, { hash := PyData.keyHash P (Str.ofString "_read_char"), key := Value.str (Str.ofString "_read_char") 277, val := Value.ref 77 }, { hash := PyData.keyHash P (Str.ofString "get_token"), key := Value.str (Str.ofString "get_token") 287, val := Value.ref 84 }, { hash := PyData.keyHash P (Str.ofString "push_token"), key := Value.str (Str.ofString "push_token") 295, val := Value.ref 91 }, { hash := PyData.keyHash P (Str.ofString "__static_attributes__"), key := Value.str (Str.ofString "__static_attributes__") 300, val := Value.ref 92 }] 8 }
noncomputable def ob612 (P : Params) : Obj := { cls := Value.none, data := Data.fields #[Value.int 50 0, Value.int 4 0, Value.ref 69, Value.int 56 0, Value.int 4 0, Value.ref 76, Value.int 62 0, Value.int 4 0, Value.ref 83, Value.int 89 0, Value.int 4 0, Value.ref 90] }
noncomputable def ob622 (P : Params) : Obj := { cls := Value.type "code", data := Data.fields #[Value.str (Str.ofString "_netrclex") 252, Value.str (Str.ofString "_netrclex") 253, Value.str (Str.ofString "/claim/cut.py") 254, Value.int 48 0, Value.int 0 0, Value.int 0 0, Value.int 0 0, Value.int 0 0, Value.ref 60, Value.bool false, Value.int 181 0, Value.ref 61, Value.none, Value.none, Value.none, Value.none, Value.int 255 0, Value.int 48 0, Value.str (Str.ofString "/claim/cut.py") 256] }
noncomputable def ob632 (P : Params) : Obj := { cls := Value.type "frame", slots := #[some (Value.ref 62), some (Value.ref 3), some (Value.ref 59), none, some (Value.str (Str.ofString "cpy313.netrc") 248), none, some (Value.ref 0)] }
noncomputable def ob662 (P : Params) : Obj := { cls := Value.type "tuple", data := Data.seq #[Value.str (Str.ofString "self") 265, Value.str (Str.ofString "fp") 266] }
noncomputable def ob682 (P : Params) : Obj := { cls := .none, data := .func (fd0 (Str.ofString "_netrclex.__init__") (mth 0)) }
noncomputable def ob692 (P : Params) : Obj := { cls := Value.type "code", data := Data.fields #[Value.str (Str.ofString "__init__") 262, Value.str (Str.ofString "_netrclex.__init__") 263, Value.str (Str.ofString "/claim/cut.py") 264, Value.int 50 0, Value.int 2 0, Value.int 0 0, Value.int 0 0, Value.int 3 0, Value.ref 64, Value.bool true, Value.int 181 0, Value.ref 65, Value.none, Value.ref 66, Value.ref 67, Value.ref 68, Value.int 267 0, Value.int 50 0, Value.str (Str.ofString "/claim/cut.py") 268] }
noncomputable def ob702 (P : Params) : Obj := { cls := .type "function", data := .func (fdOf (Str.ofString "_netrclex.__init__") (.str (Str.ofString "cpy313.netrc") 248) (.ref 69) (mth 0)) }
noncomputable def ob732 (P : Params) : Obj := { cls := Value.type "tuple", data := Data.seq #[Value.str (Str.ofString "self") 273, Value.str (Str.ofString "ch") 274] }
noncomputable def ob752 (P : Params) : Obj := { cls := .none, data := .func (fd0 (Str.ofString "_netrclex._read_char") (mth 1)) }
noncomputable def ob762 (P : Params) : Obj := { cls := Value.type "code", data := Data.fields #[Value.str (Str.ofString "_read_char") 270, Value.str (Str.ofString "_netrclex._read_char") 271, Value.str (Str.ofString "/claim/cut.py") 272, Value.int 56 0, Value.int 1 0, Value.int 0 0, Value.int 0 0, Value.int 3 0, Value.ref 71, Value.bool true, Value.int 181 0, Value.ref 72, Value.none, Value.ref 73, Value.ref 74, Value.ref 75, Value.int 275 0, Value.int 56 0, Value.str (Str.ofString "/claim/cut.py") 276] }
noncomputable def ob772 (P : Params) : Obj := { cls := .type "function", data := .func (fdOf (Str.ofString "_netrclex._read_char") (.str (Str.ofString "cpy313.netrc") 248) (.ref 76) (mth 1)) }
noncomputable def ob802 (P : Params) : Obj := { cls := Value.type "tuple", data := Data.seq #[Value.str (Str.ofString "self") 281, Value.str (Str.ofString "token") 282, Value.str (Str.ofString "fiter") 283, Value.str (Str.ofString "ch") 284] }
noncomputable def ob822 (P : Params) : Obj := { cls := .none, data := .func (fd0 (Str.ofString "_netrclex.get_token") (mth 2)) }
noncomputable def ob832 (P : Params) : Obj := { cls := Value.type "code", data := Data.fields #[Value.str (Str.ofString "get_token") 278, Value.str (Str.ofString "_netrclex.get_token") 279, Value.str (Str.ofString "/claim/cut.py") 280, Value.int 62 0, Value.int 1 0, Value.int 0 0, Value.int 0 0, Value.int 3 0, Value.ref 78, Value.bool true, Value.int 181 0, Value.ref 79, Value.none, Value.ref 80, Value.ref 81, Value.ref 82, Value.int 285 0, Value.int 62 0, Value.str (Str.ofString "/claim/cut.py") 286] }
noncomputable def ob842 (P : Params) : Obj := { cls := .type "function", data := .func (fdOf (Str.ofString "_netrclex.get_token") (.str (Str.ofString "cpy313.netrc") 248) (.ref 83) (mth 2)) }
noncomputable def ob872 (P : Params) : Obj := { cls := Value.type "tuple", data := Data.seq #[Value.str (Str.ofString "self") 291, Value.str (Str.ofString "token") 292] }
noncomputable def ob892 (P : Params) : Obj := { cls := .none, data := .func (fd0 (Str.ofString "_netrclex.push_token") (mth 3)) }
noncomputable def ob902 (P : Params) : Obj := { cls := Value.type "code", data := Data.fields #[Value.str (Str.ofString "push_token") 288, Value.str (Str.ofString "_netrclex.push_token") 289, Value.str (Str.ofString "/claim/cut.py") 290, Value.int 89 0, Value.int 2 0, Value.int 0 0, Value.int 0 0, Value.int 3 0, Value.ref 85, Value.bool true, Value.int 181 0, Value.ref 86, Value.none, Value.ref 87, Value.ref 88, Value.ref 89, Value.int 293 0, Value.int 89 0, Value.str (Str.ofString "/claim/cut.py") 294] }
noncomputable def ob912 (P : Params) : Obj := { cls := .type "function", data := .func (fdOf (Str.ofString "_netrclex.push_token") (.str (Str.ofString "cpy313.netrc") 248) (.ref 90) (mth 3)) }
noncomputable def ob922 (P : Params) : Obj := { cls := Value.type "tuple", data := Data.seq #[Value.str (Str.ofString "instream") 296, Value.str (Str.ofString "lineno") 297, Value.str (Str.ofString "pushback") 298, Value.str (Str.ofString "whitespace") 299] }
noncomputable def ob932 (P : Params) : Obj := { cls := Value.type "dict", data := Data.dict #[{ hash := PyData.keyHash P (Str.ofString "__module__"), key := Value.str (Str.ofString "__module__") 257, val := Value.str (Str.ofString "cpy313.netrc") 248 }, { hash := PyData.keyHash P (Str.ofString "__firstlineno__"), key := Value.str (Str.ofString "__firstlineno__") 261, val := Value.int 48 260 }, { hash := PyData.keyHash P (Str.ofString "__init__"), key := Value.str (Str.ofString "__init__") 269, val := Value.ref 70 }, { hash := PyData.keyHash P (Str.ofString "_read_char"), key := Value.str (Str.ofString "_read_char") 277, val := Value.ref 77 }, { hash := PyData.keyHash P (Str.ofString "get_token"), key := Value.str (Str.ofString "get_token") 287, val := Value.ref 84 }, { hash := PyData.keyHash P (Str.ofString "push_token"), key := Value.str (Str.ofString "push_token") 295, val := Value.ref 91 }, { hash := PyData.keyHash P (Str.ofString "__static_attributes__"), key := Value.str (Str.ofString "__static_attributes__") 300, val := Value.ref 92 }, { hash := PyData.keyHash P (Str.ofString "__dict__"), key := Value.str (Str.ofString "__dict__") 302, val := Value.ref 95 }, { hash := PyData.keyHash P (Str.ofString "__weakref__"), key := Value.str (Str.ofString "__weakref__") 304, val := Value.ref 96 }, { hash := PyData.keyHash P (Str.ofString "__doc__"), key := Value.str (Str.ofString "__doc__") 305, val := Value.none }] 4 }
noncomputable def ob942 (P : Params) : Obj := { cls := Value.type "type", data := Data.cls { name := Str.ofString "_netrclex", bases := [Value.type "object"], mro := [Value.ref 94, Value.type "object"], ns := 93, qualname := Str.ofString "_netrclex" }, slots := #[none, none, some (Value.str (Str.ofString "_netrclex") 250), some (Value.str (Str.ofString "_netrclex") 258), some (Value.builtin "object.__new__"), some (Value.bool true)] }
noncomputable def ob952 (P : Params) : Obj := { cls := Value.type "getset_descriptor", data := Data.fields #[Value.str (Str.ofString "__dict__") 301, Value.ref 94, Value.builtin "function.__dict__", Value.builtin "function.__dict__#set"] }
noncomputable def ob962 (P : Params) : Obj := { cls := Value.type "getset_descriptor", data := Data.fields #[Value.str (Str.ofString "__weakref__") 303, Value.ref 94, Value.builtin "ExceptionGroup.__weakref__", Value.none] }
noncomputable def ob972 (P : Params) : Obj := { cls := Value.type "super", data := Data.fields #[Value.ref 94, Value.ref 94, Value.ref 94] }
noncomputable def ob982 (P : Params) : Obj := { cls := Value.type "builtin_function_or_method", data := Data.fields #[Value.builtin "object.__init_subclass__", Value.ref 94] }
noncomputable def ob1012 (P : Params) : Obj := { cls := Value.type "tuple", data := Data.seq #[Value.str (Str.ofString "text") 313, Value.str (Str.ofString "tape") 314, Value.str (Str.ofString "_law_read") 315] }
noncomputable def ob1022 (P : Params) : Obj := { cls := Value.type "tuple", data := Data.seq #[Value.str (Str.ofString "left") 316] }
noncomputable def ob1032 (P : Params) : Obj := { cls := .none, data := .func (fd0 (Str.ofString "_law_tape") (stAt Pr 10)) }
noncomputable def ob1042 (P : Params) : Obj := { cls := Value.type "code", data := Data.fields #[Value.str (Str.ofString "_law_tape") 310, Value.str (Str.ofString "_law_tape") 311, Value.str (Str.ofString "/claim/cut.py") 312, Value.int 92 0, Value.int 1 0, Value.int 0 0, Value.int 0 0, Value.int 3 0, Value.ref 99, Value.bool true, Value.int 181 0, Value.ref 100, Value.none, Value.ref 101, Value.ref 102, Value.ref 103, Value.int 317 0, Value.int 92 0, Value.str (Str.ofString "/claim/cut.py") 318] }
noncomputable def ob1052 (P : Params) : Obj := { cls := .type "function", data := .func (fdOf (Str.ofString "_law_tape") (.str (Str.ofString "law_mr0160_01") 308) (.ref 104) (stAt Pr 10)) }
noncomputable def ob3f (P : Params) : Obj := { cls := Value.type "dict", data := Data.dict #[{ hash := PyData.keyHash P (Str.ofString "__name__"), key := Value.str (Str.ofString "__name__") 165, val := Value.str (Str.ofString "law_mr0160_01") 308 }, { hash := PyData.keyHash P (Str.ofString "__doc__"), key := Value.str (Str.ofString "__doc__") 166, val := Value.none }, { hash := PyData.keyHash P (Str.ofString "__package__"), key := Value.str (Str.ofString "__package__") 167, val := Value.none }, { hash := PyData.keyHash P (Str.ofString "__loader__"), key := Value.str (Str.ofString "__loader__") 168, val := Value.builtin "__main__.__loader__#opaque" }, { hash := PyData.keyHash P (Str.ofString "__spec__"), key := Value.str (Str.ofString "__spec__") 169, val := Value.none }, { hash := PyData.keyHash P (Str.ofString "__annotations__"), key := Value.str (Str.ofString "__annotations__") 170, val := Value.ref 6 }, { hash := PyData.keyHash P (Str.ofString "__builtins__"), key := Value.str (Str.ofString "__builtins__") 171, val := Value.ref 4 }, { hash := PyData.keyHash P (Str.ofString "__file__"), key := Value.str (Str.ofString "__file__") 173, val := Value.str (Str.ofString "/claim/cut.py") 172 }, { hash := PyData.keyHash P (Str.ofString "__cached__"), key := Value.str (Str.ofString "__cached__") 174, val := Value.none }, { hash := PyData.keyHash P (Str.ofString "_wall"), key := Value.str (Str.ofString "_wall") 193, val := Value.ref 21 }, { hash := PyData.keyHash P (Str.ofString "heappop"), key := Value.str (Str.ofString "heappop") 204, val := Value.ref 28 }, { hash := PyData.keyHash P (Str.ofString "heapreplace"), key := Value.str (Str.ofString "heapreplace") 213, val := Value.ref 35 }, { hash := PyData.keyHash P (Str.ofString "heapify"), key := Value.str (Str.ofString "heapify") 222, val := Value.ref 42 }, { hash := PyData.keyHash P (Str.ofString "_siftdown"), key := Value.str (Str.ofString "_siftdown") 234, val := Value.ref 49 }, { hash := PyData.keyHash P (Str.ofString "_siftup"), key := Value.str (Str.ofString "_siftup") 247, val := Value.ref 56 }, { hash := PyData.keyHash P (Str.ofString "_netrclex"), key := Value.str (Str.ofString "_netrclex") 307, val := Value.ref 94 }, { hash := PyData.keyHash P (Str.ofString "_law_tape"), key := Value.str (Str.ofString "_law_tape") 319, val := Value.ref 105 }, { hash := PyData.keyHash P (Str.ofString "_law_written"), key := Value.str (Str.ofString "_law_written") 331, val := Value.ref 112 }, { hash := PyData.keyHash P (Str.ofString "_law_files"), key := Value.str (Str.ofString "_law_files") 349, val := Value.ref 119 }, { hash := PyData.keyHash P (Str.ofString "law"), key := Value.str (Str.ofString "law") 355, val := Value.ref 124 }] 20 }
noncomputable def ob12f (P : Params) : Obj := { cls := Value.none, data := Data.fields #[Value.int 1 0, Value.int 0 0, Value.ref 20, Value.int 5 0, Value.int 0 0, Value.ref 27, Value.int 13 0, Value.int 0 0, Value.ref 34, Value.int 18 0, Value.int 0 0, Value.ref 41, Value.int 22 0, Value.int 0 0, Value.ref 48, Value.int 33 0, Value.int 0 0, Value.ref 55, Value.int 48 0, Value.int 0 0, Value.ref 62, Value.int 92 0, Value.int 0 0, Value.ref 104, Value.int 102 0, Value.int 0 0, Value.ref 111, Value.int 111 0, Value.int 0 0, Value.ref 118, Value.int 130 0, Value.int 0 0, Value.ref 123] }
noncomputable def ob108f (P : Params) : Obj := { cls := Value.type "tuple", data := Data.seq #[Value.str (Str.ofString "word") 323, Value.str (Str.ofString "quoted") 324, Value.str (Str.ofString "out") 325, Value.str (Str.ofString "place") 326, Value.str (Str.ofString "sign") 327, Value.str (Str.ofString "hidden") 328] }
noncomputable def ob110f (P : Params) : Obj := { cls := .none, data := .func (fd0 (Str.ofString "_law_written") (stAt Pr 11)) }
noncomputable def ob111f (P : Params) : Obj := { cls := Value.type "code", data := Data.fields #[Value.str (Str.ofString "_law_written") 320, Value.str (Str.ofString "_law_written") 321, Value.str (Str.ofString "/claim/cut.py") 322, Value.int 102 0, Value.int 2 0, Value.int 0 0, Value.int 0 0, Value.int 3 0, Value.ref 106, Value.bool true, Value.int 181 0, Value.ref 107, Value.none, Value.ref 108, Value.ref 109, Value.ref 110, Value.int 329 0, Value.int 102 0, Value.str (Str.ofString "/claim/cut.py") 330] }
noncomputable def ob112f (P : Params) : Obj := { cls := .type "function", data := .func (fdOf (Str.ofString "_law_written") (.str (Str.ofString "law_mr0160_01") 308) (.ref 111) (stAt Pr 11)) }
noncomputable def ob115f (P : Params) : Obj := { cls := Value.type "tuple", data := Data.seq #[Value.str (Str.ofString "figures") 335, Value.str (Str.ofString "signs") 336, Value.str (Str.ofString "gaps") 337, Value.str (Str.ofString "texts") 338, Value.str (Str.ofString "stops") 339, Value.str (Str.ofString "words") 340, Value.str (Str.ofString "place") 341, Value.str (Str.ofString "figure") 342, Value.str (Str.ofString "which") 343, Value.str (Str.ofString "quoted") 344, Value.str (Str.ofString "word") 345, Value.str (Str.ofString "row") 346] }
noncomputable def ob117f (P : Params) : Obj := { cls := .none, data := .func (fd0 (Str.ofString "_law_files") (stAt Pr 12)) }
noncomputable def ob118f (P : Params) : Obj := { cls := Value.type "code", data := Data.fields #[Value.str (Str.ofString "_law_files") 332, Value.str (Str.ofString "_law_files") 333, Value.str (Str.ofString "/claim/cut.py") 334, Value.int 111 0, Value.int 1 0, Value.int 0 0, Value.int 0 0, Value.int 3 0, Value.ref 113, Value.bool true, Value.int 181 0, Value.ref 114, Value.none, Value.ref 115, Value.ref 116, Value.ref 117, Value.int 347 0, Value.int 111 0, Value.str (Str.ofString "/claim/cut.py") 348] }
noncomputable def ob119f (P : Params) : Obj := { cls := .type "function", data := .func (fdOf (Str.ofString "_law_files") (.str (Str.ofString "law_mr0160_01") 308) (.ref 118) (stAt Pr 12)) }
noncomputable def ob122f (P : Params) : Obj := { cls := .none, data := .func (fd0 (Str.ofString "law") (stAt Pr 13)) }
noncomputable def ob123f (P : Params) : Obj := { cls := Value.type "code", data := Data.fields #[Value.str (Str.ofString "law") 350, Value.str (Str.ofString "law") 351, Value.str (Str.ofString "/claim/cut.py") 352, Value.int 130 0, Value.int 1 0, Value.int 0 0, Value.int 0 0, Value.int 3 0, Value.ref 120, Value.bool true, Value.int 181 0, Value.ref 121, Value.none, Value.none, Value.none, Value.ref 122, Value.int 353 0, Value.int 130 0, Value.str (Str.ofString "/claim/cut.py") 354] }
noncomputable def ob124f (P : Params) : Obj := { cls := .type "function", data := .func (fdOf (Str.ofString "law") (.str (Str.ofString "law_mr0160_01") 308) (.ref 123) (stAt Pr 13)) }
noncomputable def tr_a (P : Params) : BT := .node (boot_o_0 P) (.node (boot_o_1 P) (.node (boot_o_3 P) (.node (boot_o_7 P) .nil .nil) (.node (boot_o_7 P) .nil .nil)) (.node (boot_o_5 P) (.node (boot_o_9 P) .nil .nil) (.node (ob13a P) .nil .nil))) (.node (boot_o_2 P) (.node (boot_o_4 P) (.node (boot_o_8 P) .nil .nil) (.node (boot_o_8 P) .nil .nil)) (.node (boot_o_6 P) (.node (boot_o_10 P) .nil .nil) (.node (ob14a P) .nil .nil)))
noncomputable def tr_1 (P : Params) : BT := .node (boot_o_0 P) (.node (boot_o_1 P) (.node (ob31 P) (.node (boot_o_7 P) (.node (boot_o_7 P) (.node (ob311 P) .nil .nil) (.node (ob471 P) .nil .nil)) (.node (boot_o_8 P) (.node (boot_o_7 P) .nil .nil) (.node (ob551 P) .nil .nil))) (.node (boot_o_7 P) (.node (ob191 P) (.node (ob351 P) .nil .nil) (.node (boot_o_8 P) .nil .nil)) (.node (ob271 P) (.node (boot_o_7 P) .nil .nil) .nil))) (.node (boot_o_5 P) (.node (boot_o_9 P) (.node (ob171 P) (.node (ob331 P) .nil .nil) (.node (ob491 P) .nil .nil)) (.node (boot_o_7 P) (.node (ob411 P) .nil .nil) .nil)) (.node (ob13a P) (.node (ob211 P) (.node (boot_o_8 P) .nil .nil) (.node (boot_o_7 P) .nil .nil)) (.node (boot_o_7 P) (.node (ob451 P) .nil .nil) .nil)))) (.node (boot_o_2 P) (.node (boot_o_4 P) (.node (boot_o_8 P) (.node (boot_o_8 P) (.node (boot_o_7 P) .nil .nil) (.node (ob481 P) .nil .nil)) (.node (ob241 P) (.node (ob401 P) .nil .nil) (.node (ob561 P) .nil .nil))) (.node (ob121 P) (.node (ob201 P) (.node (boot_o_7 P) .nil .nil) (.node (ob521 P) .nil .nil)) (.node (ob281 P) (.node (boot_o_8 P) .nil .nil) .nil))) (.node (boot_o_6 P) (.node (boot_o_10 P) (.node (boot_o_7 P) (.node (ob341 P) .nil .nil) (.node (boot_o_7 P) .nil .nil)) (.node (ob261 P) (.node (ob421 P) .nil .nil) .nil)) (.node (ob14a P) (.node (boot_o_7 P) (.node (ob381 P) .nil .nil) (.node (ob541 P) .nil .nil)) (.node (boot_o_8 P) (.node (boot_o_7 P) .nil .nil) .nil))))
noncomputable def tr_2 (P : Params) : BT := .node (boot_o_0 P) (.node (boot_o_1 P) (.node (ob32 P) (.node (boot_o_7 P) (.node (boot_o_7 P) (.node (ob311 P) (.node (ob632 P) .nil .nil) (.node (ob952 P) .nil .nil)) (.node (ob471 P) (.node (boot_o_8 P) .nil .nil) .nil)) (.node (boot_o_8 P) (.node (boot_o_7 P) (.node (boot_o_7 P) .nil .nil) (.node (ob1032 P) .nil .nil)) (.node (ob551 P) (.node (ob872 P) .nil .nil) .nil))) (.node (boot_o_7 P) (.node (ob191 P) (.node (ob351 P) (.node (boot_o_7 P) .nil .nil) (.node (boot_o_7 P) .nil .nil)) (.node (boot_o_8 P) (.node (ob832 P) .nil .nil) .nil)) (.node (ob271 P) (.node (boot_o_7 P) (.node (ob752 P) .nil .nil) .nil) (.node (ob592 P) (.node (ob912 P) .nil .nil) .nil)))) (.node (boot_o_5 P) (.node (boot_o_9 P) (.node (ob171 P) (.node (ob331 P) (.node (boot_o_8 P) .nil .nil) (.node (ob972 P) .nil .nil)) (.node (ob491 P) (.node (boot_o_7 P) .nil .nil) .nil)) (.node (boot_o_7 P) (.node (ob411 P) (.node (ob732 P) .nil .nil) (.node (ob1052 P) .nil .nil)) (.node (boot_o_7 P) (.node (ob892 P) .nil .nil) .nil))) (.node (ob13a P) (.node (ob211 P) (.node (boot_o_8 P) (.node (ob692 P) .nil .nil) (.node (ob1012 P) .nil .nil)) (.node (boot_o_7 P) (.node (boot_o_7 P) .nil .nil) .nil)) (.node (boot_o_7 P) (.node (ob451 P) (.node (ob772 P) .nil .nil) .nil) (.node (ob612 P) (.node (ob932 P) .nil .nil) .nil))))) (.node (boot_o_2 P) (.node (boot_o_4 P) (.node (boot_o_8 P) (.node (boot_o_8 P) (.node (boot_o_7 P) (.node (boot_o_7 P) .nil .nil) (.node (ob962 P) .nil .nil)) (.node (ob481 P) (.node (ob802 P) .nil .nil) .nil)) (.node (ob241 P) (.node (ob401 P) (.node (boot_o_8 P) .nil .nil) (.node (ob1042 P) .nil .nil)) (.node (ob561 P) (.node (boot_o_7 P) .nil .nil) .nil))) (.node (ob122 P) (.node (ob201 P) (.node (boot_o_7 P) (.node (ob682 P) .nil .nil) (.node (boot_o_8 P) .nil .nil)) (.node (ob521 P) (.node (ob842 P) .nil .nil) .nil)) (.node (ob281 P) (.node (boot_o_8 P) (.node (ob762 P) .nil .nil) .nil) (.node (boot_o_7 P) (.node (ob922 P) .nil .nil) .nil)))) (.node (boot_o_6 P) (.node (boot_o_10 P) (.node (boot_o_7 P) (.node (ob341 P) (.node (ob662 P) .nil .nil) (.node (ob982 P) .nil .nil)) (.node (boot_o_7 P) (.node (ob822 P) .nil .nil) .nil)) (.node (ob261 P) (.node (ob421 P) (.node (boot_o_7 P) .nil .nil) .nil) (.node (ob582 P) (.node (ob902 P) .nil .nil) .nil))) (.node (ob14a P) (.node (boot_o_7 P) (.node (ob381 P) (.node (ob702 P) .nil .nil) (.node (ob1022 P) .nil .nil)) (.node (ob541 P) (.node (boot_o_8 P) .nil .nil) .nil)) (.node (boot_o_8 P) (.node (boot_o_7 P) (.node (boot_o_7 P) .nil .nil) .nil) (.node (ob622 P) (.node (ob942 P) .nil .nil) .nil)))))
noncomputable def tr_f (P : Params) : BT := .node (boot_o_0 P) (.node (boot_o_1 P) (.node (ob3f P) (.node (boot_o_7 P) (.node (boot_o_7 P) (.node (ob311 P) (.node (ob632 P) .nil .nil) (.node (ob952 P) .nil .nil)) (.node (ob471 P) (.node (boot_o_8 P) .nil .nil) (.node (ob111f P) .nil .nil))) (.node (boot_o_8 P) (.node (boot_o_7 P) (.node (boot_o_7 P) .nil .nil) (.node (ob1032 P) .nil .nil)) (.node (ob551 P) (.node (ob872 P) .nil .nil) (.node (ob119f P) .nil .nil)))) (.node (boot_o_7 P) (.node (ob191 P) (.node (ob351 P) (.node (boot_o_7 P) .nil .nil) (.node (boot_o_7 P) .nil .nil)) (.node (boot_o_8 P) (.node (ob832 P) .nil .nil) (.node (ob115f P) .nil .nil))) (.node (ob271 P) (.node (boot_o_7 P) (.node (ob752 P) .nil .nil) (.node (boot_o_8 P) .nil .nil)) (.node (ob592 P) (.node (ob912 P) .nil .nil) (.node (ob123f P) .nil .nil))))) (.node (boot_o_5 P) (.node (boot_o_9 P) (.node (ob171 P) (.node (ob331 P) (.node (boot_o_8 P) .nil .nil) (.node (ob972 P) .nil .nil)) (.node (ob491 P) (.node (boot_o_7 P) .nil .nil) (.node (boot_o_7 P) .nil .nil))) (.node (boot_o_7 P) (.node (ob411 P) (.node (ob732 P) .nil .nil) (.node (ob1052 P) .nil .nil)) (.node (boot_o_7 P) (.node (ob892 P) .nil .nil) (.node (boot_o_8 P) .nil .nil)))) (.node (ob13a P) (.node (ob211 P) (.node (boot_o_8 P) (.node (ob692 P) .nil .nil) (.node (ob1012 P) .nil .nil)) (.node (boot_o_7 P) (.node (boot_o_7 P) .nil .nil) (.node (ob117f P) .nil .nil))) (.node (boot_o_7 P) (.node (ob451 P) (.node (ob772 P) .nil .nil) (.node (boot_o_7 P) .nil .nil)) (.node (ob612 P) (.node (ob932 P) .nil .nil) .nil))))) (.node (boot_o_2 P) (.node (boot_o_4 P) (.node (boot_o_8 P) (.node (boot_o_8 P) (.node (boot_o_7 P) (.node (boot_o_7 P) .nil .nil) (.node (ob962 P) .nil .nil)) (.node (ob481 P) (.node (ob802 P) .nil .nil) (.node (ob112f P) .nil .nil))) (.node (ob241 P) (.node (ob401 P) (.node (boot_o_8 P) .nil .nil) (.node (ob1042 P) .nil .nil)) (.node (ob561 P) (.node (boot_o_7 P) .nil .nil) (.node (boot_o_7 P) .nil .nil)))) (.node (ob12f P) (.node (ob201 P) (.node (boot_o_7 P) (.node (ob682 P) .nil .nil) (.node (boot_o_8 P) .nil .nil)) (.node (ob521 P) (.node (ob842 P) .nil .nil) (.node (boot_o_7 P) .nil .nil))) (.node (ob281 P) (.node (boot_o_8 P) (.node (ob762 P) .nil .nil) (.node (ob108f P) .nil .nil)) (.node (boot_o_7 P) (.node (ob922 P) .nil .nil) (.node (ob124f P) .nil .nil))))) (.node (boot_o_6 P) (.node (boot_o_10 P) (.node (boot_o_7 P) (.node (ob341 P) (.node (ob662 P) .nil .nil) (.node (ob982 P) .nil .nil)) (.node (boot_o_7 P) (.node (ob822 P) .nil .nil) (.node (boot_o_8 P) .nil .nil))) (.node (ob261 P) (.node (ob421 P) (.node (boot_o_7 P) .nil .nil) (.node (boot_o_7 P) .nil .nil)) (.node (ob582 P) (.node (ob902 P) .nil .nil) (.node (ob122f P) .nil .nil)))) (.node (ob14a P) (.node (boot_o_7 P) (.node (ob381 P) (.node (ob702 P) .nil .nil) (.node (ob1022 P) .nil .nil)) (.node (ob541 P) (.node (boot_o_8 P) .nil .nil) (.node (ob118f P) .nil .nil))) (.node (boot_o_8 P) (.node (boot_o_7 P) (.node (boot_o_7 P) .nil .nil) (.node (ob110f P) .nil .nil)) (.node (ob622 P) (.node (ob942 P) .nil .nil) .nil)))))
noncomputable def hp_a (P : Params) : Heap := ⟨Array.mk [boot_o_0 P, boot_o_1 P, boot_o_2 P, boot_o_3 P, boot_o_4 P, boot_o_5 P, boot_o_6 P, boot_o_7 P, boot_o_8 P, boot_o_9 P, boot_o_10 P, boot_o_7 P, boot_o_8 P, ob13a P, ob14a P], {}⟩
noncomputable def hp_f (P : Params) : Heap := ⟨Array.mk [boot_o_0 P, boot_o_1 P, boot_o_2 P, ob3f P, boot_o_4 P, boot_o_5 P, boot_o_6 P, boot_o_7 P, boot_o_8 P, boot_o_9 P, boot_o_10 P, boot_o_7 P, ob12f P, ob13a P, ob14a P, boot_o_7 P, boot_o_8 P, ob171 P, boot_o_7 P, ob191 P, ob201 P, ob211 P, boot_o_7 P, boot_o_8 P, ob241 P, boot_o_7 P, ob261 P, ob271 P, ob281 P, boot_o_7 P, boot_o_8 P, ob311 P, boot_o_7 P, ob331 P, ob341 P, ob351 P, boot_o_7 P, boot_o_8 P, ob381 P, boot_o_7 P, ob401 P, ob411 P, ob421 P, boot_o_7 P, boot_o_8 P, ob451 P, boot_o_7 P, ob471 P, ob481 P, ob491 P, boot_o_7 P, boot_o_8 P, ob521 P, boot_o_7 P, ob541 P, ob551 P, ob561 P, boot_o_7 P, ob582 P, ob592 P, boot_o_7 P, ob612 P, ob622 P, ob632 P, boot_o_7 P, boot_o_8 P, ob662 P, boot_o_7 P, ob682 P, ob692 P, ob702 P, boot_o_7 P, boot_o_8 P, ob732 P, boot_o_7 P, ob752 P, ob762 P, ob772 P, boot_o_7 P, boot_o_8 P, ob802 P, boot_o_7 P, ob822 P, ob832 P, ob842 P, boot_o_7 P, boot_o_8 P, ob872 P, boot_o_7 P, ob892 P, ob902 P, ob912 P, ob922 P, ob932 P, ob942 P, ob952 P, ob962 P, ob972 P, ob982 P, boot_o_7 P, boot_o_8 P, ob1012 P, ob1022 P, ob1032 P, ob1042 P, ob1052 P, boot_o_7 P, boot_o_8 P, ob108f P, boot_o_7 P, ob110f P, ob111f P, ob112f P, boot_o_7 P, boot_o_8 P, ob115f P, boot_o_7 P, ob117f P, ob118f P, ob119f P, boot_o_7 P, boot_o_8 P, ob122f P, ob123f P, ob124f P], {}⟩
noncomputable abbrev ps0 : Pos := ⟨0, 0, 0, 0⟩
noncomputable def enA : Env := { scope := Pr.main.scope, locals := mainNs, globals := mainNs, cells := [], code := .ref 13, frame := some 14 }
noncomputable abbrev cdA : Code := .body (behindTheImports Pr) enA
noncomputable abbrev frA : List Frame := [topFrame ps0]
noncomputable abbrev an0 : Option Value := some (.ref 6)
noncomputable abbrev ps1 : Pos := ⟨47, 0, 47, 8⟩
noncomputable def gr1 : List Stmt := [stAt Pr 0, stAt Pr 1, stAt Pr 2, stAt Pr 3, stAt Pr 4, stAt Pr 5, stAt Pr 6, stAt Pr 7]
noncomputable abbrev ps2 : Pos := ⟨92, 0, 101, 15⟩
noncomputable def gr2 : List Stmt := [stAt Pr 8, stAt Pr 9, stAt Pr 10]
noncomputable abbrev ps3 : Pos := ⟨130, 0, 147, 102⟩
noncomputable def gr3 : List Stmt := [stAt Pr 11, stAt Pr 12, stAt Pr 13]
noncomputable abbrev st0 (w : World) (os : OsState) : SharedT := ⟨tr_a w.params, 15, {}, Array.mk [], {}, 187, os⟩
noncomputable abbrev st1 (w : World) (os : OsState) : SharedT := ⟨tr_1 w.params, 57, {}, Array.mk [], {}, 250, os⟩
noncomputable abbrev st2 (w : World) (os : OsState) : SharedT := ⟨tr_2 w.params, 106, {}, Array.mk [], {}, 320, os⟩
noncomputable abbrev st3 (w : World) (os : OsState) : SharedT := ⟨tr_f w.params, 125, {}, Array.mk [], {}, 356, os⟩
noncomputable abbrev stF (w : World) (os : OsState) : Shared := ⟨hp_f w.params, Array.mk [], {}, 356, os⟩
theorem tp_pre (w : World) (os : OsState) : topGo treeTable Pr w 11 an0 12 ⟨boot_heap w.params, Array.mk [], boot_drawn, boot_toks, os⟩ (topStub Pr) = some (⟨hp_a w.params, Array.mk [], {}, 187, os⟩, ⟨denote treeTable cdA, cdA, ps0, frA⟩) := by kernel_rfl
theorem tp_blk (w : World) (os : OsState) : segRun treeTable Pr w 11 an0 1 1 ⟨hp_a w.params, Array.mk [], {}, 187, os⟩ (blockOf (behindTheImports Pr) enA cdA ps0 frA) = some (.next, (st0 w os).abs, cdA, ps0) := by kernel_rfl
theorem tp_1 (w : World) (os : OsState) : segRunT treeTable Pr w 11 an0 1 210 (st0 w os) (piecesOf gr1 enA cdA ps0 frA) = some (.next, st1 w os, cdA, ps1) := by
  first | (rw [PySem.W.Fast.te10110043849684766642, PySem.W.Fast.te14364793385576792824]; kernel_rfl) | kernel_rfl
theorem tp_2 (w : World) (os : OsState) : segRunT treeTable Pr w 11 an0 1 365 (st1 w os) (piecesOf gr2 enA cdA ps1 frA) = some (.next, st2 w os, cdA, ps2) := by
  first | (rw [PySem.W.Fast.te10110043849684766642, PySem.W.Fast.te14364793385576792824]; kernel_rfl) | kernel_rfl
theorem tp_3 (w : World) (os : OsState) : segRunT treeTable Pr w 11 an0 1 101 (st2 w os) (piecesOf gr3 enA cdA ps2 frA) = some (.next, st3 w os, cdA, ps3) := by
  first | (rw [PySem.W.Fast.te10110043849684766642, PySem.W.Fast.te14364793385576792824]; kernel_rfl) | kernel_rfl
theorem tp_fin (w : World) (os : OsState) : topRun treeTable Pr w 11 an0 2 (st3 w os).abs ⟨doneF .next, cdA, ps3, frA⟩ = some (stF w os) := by kernel_rfl
theorem tp_cut : behindTheImports Pr = gr1 ++ (gr2 ++ (gr3 ++ [])) := by kernel_rfl
theorem tp_rest (w : World) (os : OsState) : topRun treeTable Pr w 11 an0 (210 + (365 + (101 + 2))) (st0 w os).abs (restOf (gr1 ++ (gr2 ++ (gr3 ++ []))) enA cdA ps0 [topFrame ps0]) = some (stF w os) :=
  piece_app (segRun_of (tp_1 w os)) (piece_app (segRun_of (tp_2 w os)) (piece_app (segRun_of (tp_3 w os)) (piece_nil (tp_fin w os))))
theorem tp_body (w : World) (os : OsState) : topRun treeTable Pr w 11 an0 (210 + (365 + (101 + 2))) (st0 w os).abs (restOf (behindTheImports Pr) enA cdA ps0 [topFrame ps0]) = some (stF w os) :=
  (congrArg (fun b => topRun treeTable Pr w 11 an0 (210 + (365 + (101 + 2))) (st0 w os).abs (restOf b enA cdA ps0 [topFrame ps0])) tp_cut).trans (tp_rest w os)
theorem tp_run (w : World) (os : OsState) : topRun treeTable Pr w 11 an0 (12 + (1 + (210 + (365 + (101 + 2))))) ⟨boot_heap w.params, Array.mk [], boot_drawn, boot_toks, os⟩ (topStub Pr) = some (stF w os) :=
  go_top (tp_pre w os) (piece_block (b := behindTheImports Pr) (env := enA) (c := cdA) (pos := ps0) (tp_blk w os) (tp_body w os))
theorem tp_size (w : World) : ((boot_heap w.params).isNs mainGlobals && (Array.mk [] : Array GenState).size == 0, (boot_heap w.params).objs.size, (boot_heap w.params).nsMap mainGlobals "__annotations__") = (true, 11, an0) := by kernel_rfl
noncomputable abbrev xtr (s : Shared) : Bool := xlAt Qv [] s && recOk (RowW.records PySem.Challenge.rw_mr0160_01.row.toRowW) s
theorem tp_l1 (w : World) (os : OsState) : (staticsOk (importedModules Pr.main.body) (boot_heap w.params) (hp_f w.params) && namesBound Pr (hp_f w.params) && gensDone (stF w os) && laidKept (boot_heap w.params) (hp_f w.params)) = true := by kernel_rfl
theorem tp_l2 (w : World) (os : OsState) : openSeen Qv [] (importedModules Pr.main.body) xtr true (stF w os) = openGood Qv [] := by kernel_rfl
theorem tp_l3 (w : World) (os : OsState) : Hook.obs HH1 (stF w os) = Hook.val HH1 w := by kernel_rfl
theorem tp_open : ∀ w : World, (fencedOpening treeTable Pr w 1472).map (fun s => (s.heap, s.gens, s.drawn, s.toks)) = some (boot_heap w.params, Array.mk [], boot_drawn, boot_toks) :=
  boot_open (by kernel_rfl) (by decide) (fun s => by kernel_rfl)
theorem left1 : LeftO PySem.Challenge.rw_mr0160_01.row.prog Qv [] (fun s => xlAt Qv [] s && recOk (RowW.records PySem.Challenge.rw_mr0160_01.row.toRowW) s) (Hook.obs HH1) (Hook.val HH1) 1472 true :=
  LeftO.of_pieces tp_open tp_size tp_run (by decide) (fun w => funext fun os => looks_pair (tp_l1 w os) (looks_pair (tp_l2 w os) (tp_l3 w os)))
end
end Mine
section
open PySem PySem.Spec PySem.Calls PyProof.Rows PySem.P PySem.W
set_option maxHeartbeats 8000000 in
theorem PySem.Challenge.cw_mr0160_01_holds : PySem.Challenge.rw_mr0160_01.Holds := by
  w_on
  refine holds_law Mine.ws fun said => ?_
  refine holds_open (q := Mine.Qv) (loose := []) (Xt := fun s => xlAt Mine.Qv [] s && recOk (RowW.records PySem.Challenge.rw_mr0160_01.row.toRowW) s) (XP := XL Mine.Qv []) (Yf := Hook.obs Mine.HH1) (Ya := Hook.val Mine.HH1) (YP := Hook.says Mine.HH1) (N := 1472) Mine.left1 (Hook.of Mine.HH1) (Hook.keeps Mine.HH1) (fun s e => xl_of s (Bool.and_eq_true_iff.mp e).1) XL.keeps (by rfl) (by rfl) (by rfl) (fun s e => recFacts_of (Bool.and_eq_true_iff.mp e).2) (by rfl) (by first | assumption | decide +kernel) (by decide +kernel) ⟨rfl, rfl, rfl, rfl, rfl, by decide +kernel⟩ ?hw ?hc
  (case hw => w_witness2)
  intro w s₀ s₁ mg mb G Y fa o pm cd doc dV kV ho hd hcd hD hmg hg args vals as hpre hlay hrd hwl hlo
  have KX := km_in_of Y
  have KT := km_tabs_of Y
  refine Ground.open G ?_
  intro T B D TE TW
  wrow_args hpre hlay hrd hwl hlo
  have hg0 : s₁.heap.Ns mainGlobals mg := T.g
  have hfa : fa = 124 := by
    have e : mg (Str.ofString "law") = some (.ref 124) := mg_of KX T.g (by kernel_rfl)
    have e2 : mg (Str.ofString "law") = some (.ref fa) := hmg
    rw [e] at e2
    cases e2; rfl
  subst hfa
  all_lens
  rename_i l _ _ _ _ _ _ _ Sx vs _ hL _ _ _ _ hlen _ hints _
  clear hd hcd hD hmg
  let TT : Mine.TI := ⟨PySem.Challenge.rw_mr0160_01.row.prog, w, s₁.heap, s₁.os, 100, 104⟩
  have hKX : Frag.In _ TT.h₁ := KX
  have htab : s₁.heap.get? 100 = some { cls := .none, data := .fields #[] } := KT 100 (.head _)
  have hg0 : TT.h₁.Ns mainGlobals mg := T.g
  have nt : ∀ {n : Nat}, decide (n = 100) = false → n ≠ TT.tb := fun h e => absurd e (of_decide_eq_false h)
  have lim : Mine.Lim TT := ⟨nt rfl, T.nolimit⟩
  have bt : ∀ (x : Str) (v : Value), mg x = none → x ≠ "__name__" → bootBuiltins x = some v → Mine.BuiltIs TT x v := fun x v h1 h2 h3 => ⟨mg, mb, T.g, h1, T.b, (T.builtins x h2).trans h3⟩
  have tp : Mine.Tp TT := by
    refine ⟨nt rfl, nt rfl, bt _ _ (mg_none_of KX T.g (by kernel_rfl)) (by decide +kernel) (by kernel_rfl), ?_, ?_, ?_, ?_, ?_⟩
    · exact ⟨28, _, _, ⟨mg, T.g, Mine.mg_is hKX hg0 (v := .ref 28) (by kernel_rfl)⟩, Mine.defAt_of hKX lim rfl rfl (nt rfl) rfl rfl (nt rfl) rfl rfl rfl⟩
    · exact ⟨35, _, _, ⟨mg, T.g, Mine.mg_is hKX hg0 (v := .ref 35) (by kernel_rfl)⟩, Mine.defAt_of hKX lim rfl rfl (nt rfl) rfl rfl (nt rfl) rfl rfl rfl⟩
    · exact ⟨42, _, _, ⟨mg, T.g, Mine.mg_is hKX hg0 (v := .ref 42) (by kernel_rfl)⟩, Mine.defAt_of hKX lim rfl rfl (nt rfl) rfl rfl (nt rfl) rfl rfl rfl⟩
    · exact ⟨49, _, _, ⟨mg, T.g, Mine.mg_is hKX hg0 (v := .ref 49) (by kernel_rfl)⟩, Mine.defAt_of hKX lim rfl rfl (nt rfl) rfl rfl (nt rfl) rfl rfl rfl⟩
    · exact ⟨56, _, _, ⟨mg, T.g, Mine.mg_is hKX hg0 (v := .ref 56) (by kernel_rfl)⟩, Mine.defAt_of hKX lim rfl rfl (nt rfl) rfl rfl (nt rfl) rfl rfl rfl⟩
  have tq : Mine.Tq TT := by
    refine ⟨tp, ?_, ?_, ?_, ?_, ?_, ?_⟩ <;> exact bt _ _ (mg_none_of KX T.g (by kernel_rfl)) (by decide +kernel) (by kernel_rfl)
  have hN : TT.h₁.Ns 93 (s₁.heap.nsMap 93) := .of_isNs (isNs_of_in KX (by kernel_rfl))
  have no : ∀ x, nsIn _ 93 x = some none → s₁.heap.nsMap 93 x = none := fun x e => ns_none_of hKX hN e
  have tc : Mine.Tc TT 94 93 (s₁.heap.nsMap 93) := by
    refine ⟨⟨⟨⟨_, _, _, _, _, _, _, _, _, _, _, _, KX 94 _ rfl⟩, hN⟩, nt rfl, nt rfl, no _ (by kernel_rfl), no _ (by kernel_rfl), no _ (by kernel_rfl)⟩, ?_, no _ (by kernel_rfl), no _ (by kernel_rfl), no _ (by kernel_rfl), no _ (by kernel_rfl), no _ (by kernel_rfl), ?_, ?_, ?_, lim⟩
    · have e := KX 94 _ rfl
      intro z
      have z' : s₁.heap.get? 94 = none := z
      rw [e] at z'; cases z'
    · exact ⟨70, _, _, _, Mine.mg_is hKX hN (v := .ref 70) (by kernel_rfl), KX 70 _ rfl, rfl, rfl, Mine.defAt_of hKX lim rfl rfl (nt rfl) rfl rfl (nt rfl) rfl rfl rfl⟩
    · exact ⟨77, _, _, _, Mine.mg_is hKX hN (v := .ref 77) (by kernel_rfl), KX 77 _ rfl, rfl, rfl, Mine.defAt_of hKX lim rfl rfl (nt rfl) rfl rfl (nt rfl) rfl rfl rfl⟩
    · exact ⟨84, _, _, _, Mine.mg_is hKX hN (v := .ref 84) (by kernel_rfl), KX 84 _ rfl, rfl, rfl, Mine.defAt_of hKX lim rfl rfl (nt rfl) rfl rfl (nt rfl) rfl rfl rfl⟩
  have tn : Mine.Tn TT mg 94 := by
    refine ⟨⟨T.g, nt rfl, ?_, ?_⟩, ⟨mg, T.g, Mine.mg_is hKX hg0 (v := .ref 94) (by kernel_rfl)⟩, ?_⟩
    · exact ⟨_, _, _, _, _, _, _, _, _, KX 104 _ rfl, rfl, rfl, rfl, rfl, rfl, rfl, rfl, rfl, nt rfl⟩
    · obtain ⟨bm, ob, b1, b2, b3, b4, b5, b6⟩ := T.bmain
      refine ⟨bm, ob, b1, b2, ?_, ?_, b3, b4, b5, b6⟩
      · rintro rfl
        have e := KX 3 _ rfl
        rw [show mainGlobals = 3 from rfl, e] at b3
        cases b3
        have b4' : (Value.type "dict") = Value.type "module" := b4
        exact absurd b4' (by decide)
      · rintro rfl
        have b3' : s₁.heap.get? 100 = some ob := b3
        rw [htab] at b3'
        cases b3'; cases b4
    · exact ⟨105, _, ⟨mg, T.g, Mine.mg_is hKX hg0 (v := .ref 105) (by kernel_rfl)⟩, Mine.defAt_of hKX lim rfl rfl (nt rfl) rfl rfl (nt rfl) rfl rfl rfl⟩
  have files : ∃ a pm cd, Mine.GlobIs TT (Mine.sn "_law_files") (.ref a) ∧ Mine.DefAt TT a (Mine.fdOf (Mine.sn "_law_files") pm cd (Mine.stAt Mine.Pr 12)) (Mine.fdB (Mine.stAt Mine.Pr 12)) :=
    ⟨119, _, _, ⟨mg, T.g, Mine.mg_is hKX hg0 (v := .ref 119) (by kernel_rfl)⟩, Mine.defAt_of hKX lim rfl rfl (nt rfl) rfl rfl (nt rfl) rfl rfl rfl⟩
  have written : ∃ a pm cd, Mine.GlobIs TT (Mine.sn "_law_written") (.ref a) ∧ Mine.DefAt TT a (Mine.fdOf (Mine.sn "_law_written") pm cd (Mine.stAt Mine.Pr 11)) (Mine.fdB (Mine.stAt Mine.Pr 11)) :=
    ⟨112, _, _, ⟨mg, T.g, Mine.mg_is hKX hg0 (v := .ref 112) (by kernel_rfl)⟩, Mine.defAt_of hKX lim rfl rfl (nt rfl) rfl rfl (nt rfl) rfl rfl rfl⟩
  have dl : ∃ pm cd, Mine.DefAt TT 124 (Mine.lawFd pm cd) (Mine.fdB (Mine.stAt Mine.Pr 13)) :=
    ⟨_, _, Mine.defAt_of hKX lim rfl rfl (nt rfl) rfl rfl (nt rfl) rfl rfl rfl⟩
  obtain ⟨pmL, cdL, dL⟩ := dl
  have hne : Sx ≠ TT.tb := by
    intro e
    obtain ⟨ol, hol, hcl, _⟩ := hL
    have e' : Sx = 100 := e
    rw [e', htab] at hol
    cases hol
    cases hcl
  have hok : Mine.Ok TT [(TT.tb, .tab)] s₁ := by
    refine ⟨fun b o e _ => e, fun p hp => ?_, by simp [Mine.foots, Mine.foot], fun b hb => .inr (by simpa [Mine.foots, Mine.foot] using hb), hg, rfl⟩
    cases List.mem_singleton.mp hp
    exact ⟨⟨⟨_, _, KX 104 _ rfl, rfl, rfl, rfl⟩, htab⟩, htab⟩
  have rm : Mine.Rm callerA (0 + 30) := ⟨rfl, by decide, by decide⟩
  have hcall := Mine.law_call (Sx := Sx) (l := l) (k := 0) tq tc tn files written dL rm (Mine.topInts_of hne hL hints) (by omega)
  refine wpAny_mono (hcall.run s₁ [.ref Sx] hok ⟨_, _, rfl, rfl, rfl⟩) (fun v s' p => ?_) (fun _ _ e => e.elim)
  refine Mine.good_end rfl rfl (fun _ => rfl) ?_ p
  first | rfl | wrow_post
end
