import PyProof.Rows.All
import Wide.All
import OpenK.AllK
import Wide.FinOn
import PySem.Challenge.RW_rs0151_01
set_option Elab.async false
set_option linter.unusedVariables false

section -- HD
open PySem PySem.W PyProof.Rows
set_option maxRecDepth 100000
set_option maxHeartbeats 8000000
namespace Mine
open_top hd for PySem.Challenge.rw_rs0151_01
noncomputable abbrev fragOf {V : Program} {L : List Str} {XP : (Str → Option Value) → Heap → Prop} {K : Params → Frag} {as : List Addr} {e : ∀ P, as = (K P).map (·.1)} {r : RowW} {d : DefRec} {kwd : List (Str × Expr)} {run : Value → List Value → Sem Value} {G : Prop} (_ : WalkO V L XP (kHook K as e).says r d kwd run → G) : Params → Frag := K
noncomputable abbrev viewOf {V : Program} {L : List Str} {XP : (Str → Option Value) → Heap → Prop} {K : Params → Frag} {as : List Addr} {e : ∀ P, as = (K P).map (·.1)} {r : RowW} {d : DefRec} {kwd : List (Str × Expr)} {run : Value → List Value → Sem Value} {G : Prop} (_ : WalkO V L XP (kHook K as e).says r d kwd run → G) : Program := V
/-- the written part of the heap, and the view, that the head speaks of -/
noncomputable abbrev HK : Params → Frag := fragOf hd
noncomputable abbrev HV : Program := viewOf hd
end Mine
end -- HD

section -- J0
open PySem PySem.W PyProof.Rows PySem.Calls
set_option maxRecDepth 100000
namespace Mine
theorem star_cons {e : Expr} {es : List Expr} {env : Env} (h : W.isStarred e = false) : starEach (e :: es) env = (false, eval e env) :: starEach es env := by
  cases e <;> first | rfl | cases h
theorem star_any {env : Env} : ∀ {es : List Expr}, es.any W.isStarred = false → (starEach es env).any (·.1) = false
  | [], _ => rfl
  | e :: es, h => by
    rw [List.any_cons, Bool.or_eq_false_iff] at h
    rw [star_cons h.1, List.any_cons, star_any h.2]
    rfl
theorem back_any {pos : Pos} : ∀ {l : List (Bool × Sem Value)}, (backTo pos l).any (·.1) = l.any (·.1)
  | [] => rfl
  | x :: l => by
    have h := back_any (pos := pos) (l := l)
    unfold backTo at h ⊢
    rw [List.map_cons, List.any_cons, List.any_cons, h]
theorem back_star {pos : Pos} {env : Env} {es : List Expr} (h : es.any W.isStarred = false) : ((backTo pos (starEach es env)).any fun x => x.1) = false := by
  have e : ((backTo pos (starEach es env)).any fun x => x.1) = (starEach es env).any (·.1) := back_any
  rw [e]; exact star_any h
theorem call_name {f : Str} {fp pos : Pos} {args : List Expr} {env : Env} : eval (.Call (.Name f fp) args [] pos) env = (do callWith pos (← eval (.Name f fp) env) [] (backTo pos (starEach args env)) (backToKw pos (keywordEach [] env))) := rfl
end Mine
end -- J0

section -- J1
open PySem PySem.W PyProof.Rows PySem.Calls
set_option maxRecDepth 100000
namespace Mine

noncomputable abbrev PR : Program := PySem.Challenge.rw_rs0151_01.row.prog
noncomputable abbrev KF (w : World) : Frag := HK w.params
noncomputable abbrev LS : List Str := looseW HV [Str.ofString "tspecials", Str.ofString "_name_disallowed_re", Str.ofString "_value_disallowed_re", Str.ofString "_formatparam"]

/-- abstract data -/
inductive AV where
  | none
  | bool (b : Bool)
  | int (i : Int)
  | str (x : Str)
  | tup (l : List AV)
  | lst (l : List AV)
  | at (a : Addr)
  | rng (b : Int)
  | tok (x : Str) (t : Tok)

noncomputable abbrev tupO (vs : List Value) (n : Nat) : Obj := { cls := .type "tuple", data := .seq vs.toArray n }
noncomputable abbrev rngO (b : Int) (t u v : Tok) : Obj := { cls := .type "range", data := .fields #[.int 0 t, .int b u, .int 1 v] }
noncomputable abbrev lstO (vs : List Value) (n : Nat) : Obj := { cls := .type "list", data := .seq vs.toArray n }

mutual
inductive Rd (X : List Addr) (h : Heap) : Value → AV → Prop
  | none : Rd X h .none .none
  | bool (b : Bool) : Rd X h (.bool b) (.bool b)
  | int (i : Int) (t : Tok) : Rd X h (.int i t) (.int i)
  | str (x : Str) (t : Tok) : Rd X h (.str x t) (.str x)
  | tup {a : Addr} {vs : List Value} {n : Nat} {ds : List AV} : a ∉ X → h.get? a = some (tupO vs n) → RdAll X h vs ds → Rd X h (.ref a) (.tup ds)
  | lst {a : Addr} {vs : List Value} {n : Nat} {ds : List AV} : a ∉ X → h.get? a = some (lstO vs n) → RdAll X h vs ds → Rd X h (.ref a) (.lst ds)
  | at (a : Addr) : Rd X h (.ref a) (.at a)
  | tok (x : Str) (t : Tok) : Rd X h (.str x t) (.tok x t)
  | rng {a : Addr} {b : Int} {t u v : Tok} : a ∉ X → h.get? a = some (rngO b t u v) → Rd X h (.ref a) (.rng b)
inductive RdAll (X : List Addr) (h : Heap) : List Value → List AV → Prop
  | nil : RdAll X h [] []
  | cons {v : Value} {vs : List Value} {d : AV} {ds : List AV} : Rd X h v d → RdAll X h vs ds → RdAll X h (v :: vs) (d :: ds)
end

/-- all old objects stay -/
noncomputable def Kp (h h' : Heap) : Prop := ∀ b o, h.get? b = some o → h'.get? b = some o
/-- all old objects but those of F stay -/
noncomputable def KpBut (F : List Addr) (h h' : Heap) : Prop := ∀ b o, b ∉ F → h.get? b = some o → h'.get? b = some o
theorem Kp.refl (h : Heap) : Kp h h := fun _ _ e => e
theorem Kp.trans {a b c : Heap} (h : Kp a b) (k : Kp b c) : Kp a c := fun x o e => k x o (h x o e)
theorem Kp.but {F : List Addr} {a b : Heap} (h : Kp a b) : KpBut F a b := fun x o _ e => h x o e
theorem KpBut.trans {F : List Addr} {a b c : Heap} (h : KpBut F a b) (k : KpBut F b c) : KpBut F a c := fun x o n e => k x o n (h x o n e)
theorem KpBut.mono {F G : List Addr} {a b : Heap} (h : KpBut F a b) (s : ∀ x ∈ F, x ∈ G) : KpBut G a b := fun x o n e => h x o (fun m => n (s x m)) e
theorem Kp.push {h : Heap} (o : Obj) : Kp h (h.push o) := fun _ _ e => Heap.get?_push_of_some _ e

mutual
theorem Rd.mono {X : List Addr} {h h' : Heap} (k : KpBut X h h') : ∀ {v : Value} {d : AV}, Rd X h v d → Rd X h' v d
  | _, _, .none => .none
  | _, _, .bool b => .bool b
  | _, _, .int i t => .int i t
  | _, _, .str x t => .str x t
  | _, _, .tok x t => .tok x t
  | _, _, .tup n e r => .tup n (k _ _ n e) (RdAll.mono k r)
  | _, _, .lst n e r => .lst n (k _ _ n e) (RdAll.mono k r)
  | _, _, .at a => .at a
  | _, _, .rng n e => .rng n (k _ _ n e)
theorem RdAll.mono {X : List Addr} {h h' : Heap} (k : KpBut X h h') : ∀ {vs : List Value} {ds : List AV}, RdAll X h vs ds → RdAll X h' vs ds
  | _, _, .nil => .nil
  | _, _, .cons a r => .cons (Rd.mono k a) (RdAll.mono k r)
end
mutual
/-- another set of forbidden addresses, none of which stands in the heap unless it was forbidden before -/
theorem Rd.re {X Y : List Addr} {h : Heap} (k : ∀ a ∈ Y, a ∈ X ∨ h.get? a = Option.none) : ∀ {v : Value} {d : AV}, Rd X h v d → Rd Y h v d
  | _, _, .none => .none
  | _, _, .bool b => .bool b
  | _, _, .int i t => .int i t
  | _, _, .str x t => .str x t
  | _, _, .tok x t => .tok x t
  | _, _, .tup n e r => .tup (fun m => (k _ m).elim n fun q => by rw [q] at e; cases e) e (RdAll.re k r)
  | _, _, .lst n e r => .lst (fun m => (k _ m).elim n fun q => by rw [q] at e; cases e) e (RdAll.re k r)
  | _, _, .at a => .at a
  | _, _, .rng n e => .rng (fun m => (k _ m).elim n fun q => by rw [q] at e; cases e) e
theorem RdAll.re {X Y : List Addr} {h : Heap} (k : ∀ a ∈ Y, a ∈ X ∨ h.get? a = Option.none) : ∀ {vs : List Value} {ds : List AV}, RdAll X h vs ds → RdAll Y h vs ds
  | _, _, .nil => .nil
  | _, _, .cons a r => .cons (Rd.re k a) (RdAll.re k r)
end
theorem RdAll.length {X : List Addr} {h : Heap} : ∀ {vs : List Value} {ds : List AV}, RdAll X h vs ds → vs.length = ds.length
  | _, _, .nil => rfl
  | _, _, .cons _ r => by rw [List.length_cons, List.length_cons, RdAll.length r]
theorem RdAll.append {X : List Addr} {h : Heap} : ∀ {vs ws : List Value} {ds es : List AV}, RdAll X h vs ds → RdAll X h ws es → RdAll X h (vs ++ ws) (ds ++ es)
  | _, _, _, _, .nil, k => k
  | _, _, _, _, .cons a r, k => .cons a (r.append k)
theorem RdAll.get {X : List Addr} {h : Heap} : ∀ {vs : List Value} {ds : List AV}, RdAll X h vs ds → ∀ {i : Nat} {d : AV}, ds[i]? = some d → ∃ v, vs[i]? = some v ∧ Rd X h v d
  | _, _, .nil, _, _, e => by simp at e
  | _, _, .cons a r, 0, _, e => by simp at e; subst e; exact ⟨_, rfl, a⟩
  | _, _, .cons _ r, i + 1, _, e => by simpa using r.get (i := i) (by simpa using e)
theorem RdAll.get' {X : List Addr} {h : Heap} : ∀ {vs : List Value} {ds : List AV}, RdAll X h vs ds → ∀ {i : Nat} {v : Value}, vs[i]? = some v → ∃ d, ds[i]? = some d ∧ Rd X h v d
  | _, _, .nil, _, _, e => by simp at e
  | _, _, .cons a r, 0, _, e => by simp at e; subst e; exact ⟨_, rfl, a⟩
  | _, _, .cons _ r, i + 1, _, e => by simpa using r.get' (i := i) (by simpa using e)
theorem RdAll.take {X : List Addr} {h : Heap} : ∀ {vs : List Value} {ds : List AV} (n : Nat), RdAll X h vs ds → RdAll X h (vs.take n) (ds.take n)
  | _, _, 0, _ => by simp only [List.take_zero]; exact .nil
  | _, _, n + 1, .nil => by simp only [List.take_nil]; exact .nil
  | _, _, n + 1, .cons a r => by simp only [List.take_succ_cons]; exact .cons a (r.take n)
theorem RdAll.ints {X : List Addr} {h : Heap} : ∀ {vs : List Value} {ns : List Int}, RdAll X h vs (ns.map AV.int) → IntsAre vs ns
  | _, [], .nil => .nil
  | _, _ :: _, .cons (.int i t) r => .cons i t r.ints
theorem RdAll.ofInts {X : List Addr} {h : Heap} : ∀ {vs : List Value} {ns : List Int}, IntsAre vs ns → RdAll X h vs (ns.map AV.int)
  | _, _, .nil => .nil
  | _, _, .cons i t r => .cons (.int i t) (RdAll.ofInts r)

/-- where a name of the frame is found -/
inductive Look (env : Env) (h : Heap) (x : Str) (v : Value) : Prop
  | loc {m : Str → Option Value} : env.kindOf x = some .local → h.Ns env.locals m → m x = some v → Look env h x v
  | cell {c : Addr} : env.kindOf x = some .cell → env.cells.lookup x = some c → h.IsCell c (some v) → Look env h x v
  | free {c : Addr} : env.kindOf x = some .free → (x == ("__classdict__" : Str)) = false → env.cells.lookup x = some c → h.IsCell c (some v) → Look env h x v
theorem Heap.IsCell.kp {h h' : Heap} {c : Addr} {v : Option Value} (k : Kp h h') (x : h.IsCell c v) : h'.IsCell c v := let ⟨o, e, d⟩ := x; ⟨o, k _ _ e, d⟩
theorem Look.kp {env : Env} {h h' : Heap} {x : Str} {v : Value} (k : Kp h h') : Look env h x v → Look env h' x v
  | .loc a b c => .loc a (b.keeps k) c
  | .cell a b c => .cell a b (Heap.IsCell.kp k c)
  | .free a n b c => .free a n b (Heap.IsCell.kp k c)

noncomputable def VarsOk (X : List Addr) (env : Env) (ρ : List (Str × AV)) (h : Heap) : Prop := ∀ x d, ρ.lookup x = some d → ∃ v, Look env h x v ∧ Rd X h v d
theorem VarsOk.kp {X : List Addr} {env : Env} {ρ : List (Str × AV)} {h h' : Heap} (k : Kp h h') (V : VarsOk X env ρ h) : VarsOk X env ρ h' := fun x d e =>
  let ⟨v, a, b⟩ := V x d e; ⟨v, a.kp k, b.mono k.but⟩

structure Cx where
  w : World
  mean : ExcName → Option Value
  mg : Str → Option Value
  mb : Str → Option Value
  H0 : Heap
  A : Around
  env : Env
  /-- what no datum goes through -/
  X : List Addr
  /-- what may be changed -/
  W : List Addr

/-- what never changes -/
structure Cx.Ok (C : Cx) (n : Nat) : Prop where
  K : (HK C.w.params).In C.H0
  T : Top HV LS C.mean C.mg C.mb C.H0
  hh : C.A.handled = none
  depth : C.A.depth + n ≤ 500
  units : C.A.units + 8 * n ≤ 5000
  kind : C.env.scope.kind = .function
  glob : C.env.globals = mainGlobals
  blt : C.env.builtins = builtinsNs
  low : ∀ a ∈ C.X, C.H0.get? a = none
  sub : ∀ a ∈ C.W, a ∈ C.X

structure Pre (C : Cx) (n : Nat) (I : Heap → Prop) (ρ : List (Str × AV)) (h : Heap) : Prop where
  ok : C.Ok n
  old : Kp C.H0 h
  ex : ∀ a ∈ C.X, ∃ o, h.get? a = some o
  inv : I h
  st : ∀ h h', Kp h h' → I h → I h'
  vars : VarsOk C.X C.env ρ h
theorem Pre.kp {C : Cx} {n : Nat} {I : Heap → Prop} {ρ : List (Str × AV)} {h h' : Heap} (P : Pre C n I ρ h) (k : Kp h h') : Pre C n I ρ h' :=
  ⟨P.ok, P.old.trans k, fun a m => let ⟨o, e⟩ := P.ex a m; ⟨o, k _ _ e⟩, P.st _ _ k P.inv, P.st, P.vars.kp k⟩
theorem Pre.keeps {C : Cx} {n : Nat} {I : Heap → Prop} {ρ : List (Str × AV)} {s s' : Shared} (P : Pre C n I ρ s.heap) (k : Keeps s s') : Pre C n I ρ s'.heap := by
  obtain ⟨h', tk, rfl, k⟩ := k
  exact P.kp k
theorem Pre.fresh {C : Cx} {n : Nat} {I : Heap → Prop} {ρ : List (Str × AV)} {h : Heap} (P : Pre C n I ρ h) {a : Addr} (ha : h.get? a = none) : a ∉ C.X := fun m => by
  obtain ⟨o, e⟩ := P.ex a m
  rw [ha] at e; cases e
theorem keeps_trans {a b c : Shared} (h : Keeps a b) (k : Keeps b c) : Keeps a c := by
  obtain ⟨h1, t1, rfl, k1⟩ := h
  obtain ⟨h2, t2, rfl, k2⟩ := k
  exact ⟨h2, t2, rfl, fun x o e => k2 x o (k1 x o e)⟩
theorem keeps_refl (s : Shared) : Keeps s s := ⟨s.heap, s.toks, rfl, fun _ _ e => e⟩
theorem keeps_tk (s : Shared) (t : Nat) : Keeps s { s with toks := t } := ⟨s.heap, t, rfl, fun _ _ e => e⟩
theorem keeps_h (s : Shared) {h : Heap} (t : Nat) (k : Kp s.heap h) : Keeps s { s with heap := h, toks := t } := ⟨h, t, rfl, k⟩
theorem keeps_h' (s : Shared) {h : Heap} (k : Kp s.heap h) : Keeps s { s with heap := h } := ⟨h, s.toks, rfl, k⟩
theorem keeps_kp {s s' : Shared} (k : Keeps s s') : Kp s.heap s'.heap := by obtain ⟨h, t, rfl, k⟩ := k; exact k
theorem none_size (h : Heap) : h.get? h.objs.size = none := by
  cases e : h.get? h.objs.size with
  | none => rfl
  | some o => exact absurd (Heap.lt_size e) (Nat.lt_irrefl _)

/-- in every state that bears ρ the expression yields d, and nothing old is changed -/
structure J (C : Cx) (n : Nat) (I : Heap → Prop) (ρ : List (Str × AV)) (e : Expr) (d : AV) : Prop where
  run : ∀ s, Pre C n I ρ s.heap → ∀ Q E, (∀ v s', Keeps s s' → Rd C.X s'.heap v d → Q v s') → wpAny (model PR C.w) C.A (eval e C.env) Q E s
structure JL (C : Cx) (n : Nat) (I : Heap → Prop) (ρ : List (Str × AV)) (es : List Expr) (ds : List AV) : Prop where
  run : ∀ pos s, Pre C n I ρ s.heap → ∀ Q E, (∀ vs s', Keeps s s' → RdAll C.X s'.heap vs ds → Q vs s') → wpAny (model PR C.w) C.A (spliced (backTo pos (starEach es C.env))) Q E s

section
variable {C : Cx} {n : Nat} {I : Heap → Prop} {ρ : List (Str × AV)}

theorem J_cast {e : Expr} {d d' : AV} (h : d = d') (k : J C n I ρ e d) : J C n I ρ e d' := h ▸ k
theorem J_name {x : Str} {pos : Pos} {d : AV} (h : ρ.lookup x = some d) (hd : (x == ("__debug__" : Str)) = false := by decide) : J C n I ρ (.Name x pos) d := by
  refine ⟨fun s P Q E hQ => ?_⟩
  obtain ⟨v, l, r⟩ := P.vars x d h
  refine wpAny_Name ?_ hd
  cases l with
  | loc a b c => exact wpAny_loadName_local P.ok.kind a b c (hQ _ _ (keeps_refl s) r)
  | cell a b c => exact wpAny_loadName_cell P.ok.kind a b c (hQ _ _ (keeps_refl s) r)
  | free a n b c => exact wpAny_loadName_free P.ok.kind a b c (hQ _ _ (keeps_refl s) r) n
theorem J_int {i : Int} {k : Nat} {pos : Pos} : J C n I ρ (.Constant (.int i) k pos) (.int i) := ⟨fun s _ _ _ hQ => wpAny_Constant_int (hQ _ _ (keeps_tk s _) (.int _ _))⟩
theorem J_str {x : Str} {k : Nat} {pos : Pos} : J C n I ρ (.Constant (.str x) k pos) (.str x) := ⟨fun s _ _ _ hQ => Calls.Constant_str (hQ _ _ (keeps_tk s _) (.str _ _))⟩
theorem J_bool {b : Bool} {k : Nat} {pos : Pos} : J C n I ρ (.Constant (.bool b) k pos) (.bool b) := ⟨fun s _ _ _ hQ => Constant_bool (hQ _ _ (keeps_refl s) (.bool _))⟩
theorem J_none {k : Nat} {pos : Pos} : J C n I ρ (.Constant .none k pos) .none := ⟨fun s _ _ _ hQ => wpAny_Constant_none (hQ _ _ (keeps_refl s) .none)⟩

theorem JL_nil : JL C n I ρ [] [] := ⟨fun _ s _ _ _ hQ => spliced_none (hQ _ _ (keeps_refl s) .nil)⟩
theorem JL_cons {e : Expr} {es : List Expr} {d : AV} {ds : List AV} (h : J C n I ρ e d) (k : JL C n I ρ es ds) (hs : W.isStarred e = false := by rfl) : JL C n I ρ (e :: es) (d :: ds) := by
  refine ⟨fun pos s P Q E hQ => ?_⟩
  refine spliced_more (h.run s P _ _ fun v s₁ k₁ r₁ => k.run pos s₁ (P.keeps k₁) _ _ fun vs s₂ k₂ r₂ => ?_) (star_cons hs)
  exact hQ _ _ (keeps_trans k₁ k₂) (.cons (r₁.mono (keeps_kp k₂).but) r₂)

/-- a new list -/
theorem new_lst {s : Shared} {vs : List Value} {ds : List AV} {Q : Value → Shared → Prop} {E : Value → Shared → Prop} (P : Pre C n I ρ s.heap) (r : RdAll C.X s.heap vs ds) (hz : vs.length ≤ sizeLine)
    (hQ : ∀ v s', Keeps s s' → Rd C.X s'.heap v (.lst ds) → Q v s') : wpAny (model PR C.w) C.A (newList vs) Q E s :=
  wpAny_newObj_type (hQ _ _ (keeps_h' s (Kp.push _)) (.lst (P.fresh (none_size _)) (Heap.get?_push_size _ rfl) (r.mono (Kp.push _).but))) (by show vs.toArray.size ≤ sizeLine; rw [List.size_toArray]; exact hz)
theorem new_tup {s : Shared} {vs : List Value} {ds : List AV} {Q : Value → Shared → Prop} {E : Value → Shared → Prop} (P : Pre C n I ρ s.heap) (r : RdAll C.X s.heap vs ds) (hz : vs.length ≤ sizeLine)
    (hQ : ∀ v s', Keeps s s' → Rd C.X s'.heap v (.tup ds) → Q v s') : wpAny (model PR C.w) C.A (newTuple vs) Q E s :=
  wpAny_newObj_type (hQ _ _ (keeps_h' s (Kp.push _)) (.tup (P.fresh (none_size _)) (Heap.get?_push_size _ rfl) (r.mono (Kp.push _).but))) (by show vs.toArray.size ≤ sizeLine; rw [List.size_toArray]; exact hz)

theorem J_list {es : List Expr} {pos : Pos} {ds : List AV} (h : JL C n I ρ es ds) (hz : ds.length ≤ 1000 := by exact Nat.le_of_ble_eq_true rfl) : J C n I ρ (.List es pos) (.lst ds) := by
  refine ⟨fun s P Q E hQ => ?_⟩
  refine List_ (h.run pos s P _ _ fun vs s₁ k₁ r₁ => new_lst (P.keeps k₁) r₁ ?_ fun v s₂ k₂ r₂ => hQ _ _ (keeps_trans k₁ k₂) r₂)
  rw [r₁.length]; exact Nat.le_trans hz (by decide)
theorem J_tuple {es : List Expr} {k : Nat} {pos : Pos} {ds : List AV} (h : JL C n I ρ es ds) (hz : ds.length ≤ 1000 := by exact Nat.le_of_ble_eq_true rfl) : J C n I ρ (.Tuple es k pos) (.tup ds) := by
  refine ⟨fun s P Q E hQ => ?_⟩
  refine Tuple_ (h.run pos s P _ _ fun vs s₁ k₁ r₁ => new_tup (P.keeps k₁) r₁ ?_ fun v s₂ k₂ r₂ => hQ _ _ (keeps_trans k₁ k₂) r₂)
  rw [r₁.length]; exact Nat.le_trans hz (by decide)

/-- an operator whose work on two given values is known -/
theorem J_bin {l r : Expr} {op : Operator} {pos : Pos} {a b d : AV} (hl : J C n I ρ l a) (hr : J C n I ρ r b)
    (ho : ∀ s x y Q E, Pre C n I ρ s.heap → Rd C.X s.heap x a → Rd C.X s.heap y b → (∀ v s', Keeps s s' → Rd C.X s'.heap v d → Q v s') → wpAny (model PR C.w) C.A (binaryOp op x y) Q E s) : J C n I ρ (.BinOp l op r pos) d := by
  refine ⟨fun s P Q E hQ => ?_⟩
  refine wpAny_BinOp (hl.run s P _ _ fun x s₁ k₁ r₁ => hr.run s₁ (P.keeps k₁) _ _ fun y s₂ k₂ r₂ => ?_)
  exact ho s₂ x y _ _ (P.keeps (keeps_trans k₁ k₂)) (r₁.mono (keeps_kp k₂).but) r₂ fun v s₃ k₃ r₃ => hQ v s₃ (keeps_trans k₁ (keeps_trans k₂ k₃)) r₃
theorem J_add {l r : Expr} {pos : Pos} {a b : Int} (hl : J C n I ρ l (.int a)) (hr : J C n I ρ r (.int b)) : J C n I ρ (.BinOp l .Add r pos) (.int (a + b)) :=
  J_bin hl hr fun s x y Q E P r₁ r₂ hQ => by cases r₁; cases r₂; exact add_int (hQ _ _ (keeps_tk s _) (.int _ _))
theorem J_mod {l r : Expr} {pos : Pos} {a b : Int} (hl : J C n I ρ l (.int a)) (hr : J C n I ρ r (.int b)) (hb : b ≠ 0) : J C n I ρ (.BinOp l .Mod r pos) (.int (a.fmod b)) :=
  J_bin hl hr fun s x y Q E P r₁ r₂ hQ => by cases r₁; cases r₂; exact mod_int' hb (hQ _ _ (keeps_tk s _) (.int _ _))
end
end Mine
end -- J1

section -- J2
open PySem PySem.W PyProof.Rows PySem.Calls
set_option maxRecDepth 100000
namespace Mine
section
variable {C : Cx} {n : Nat} {I : Heap → Prop} {ρ : List (Str × AV)}

theorem J_sub {l r : Expr} {pos : Pos} {a b : Int} (hl : J C n I ρ l (.int a)) (hr : J C n I ρ r (.int b)) : J C n I ρ (.BinOp l .Sub r pos) (.int (a - b)) :=
  J_bin hl hr fun s x y Q E P r₁ r₂ hQ => by cases r₁; cases r₂; exact sub_int (hQ _ _ (keeps_tk s _) (.int _ _))
theorem J_mul {l r : Expr} {pos : Pos} {a b : Int} (hl : J C n I ρ l (.int a)) (hr : J C n I ρ r (.int b)) (hm : IntMulOk a b) : J C n I ρ (.BinOp l .Mult r pos) (.int (a * b)) :=
  J_bin hl hr fun s x y Q E P r₁ r₂ hQ => by cases r₁; cases r₂; exact mul_int (hQ _ _ (keeps_tk s _) (.int _ _)) hm
theorem J_div {l r : Expr} {pos : Pos} {a b : Int} (hl : J C n I ρ l (.int a)) (hr : J C n I ρ r (.int b)) (hb : b ≠ 0) (hp : Builtin.divisionGoesByPylong a b = false) : J C n I ρ (.BinOp l .FloorDiv r pos) (.int (a.fdiv b)) :=
  J_bin hl hr fun s x y Q E P r₁ r₂ hQ => by cases r₁; cases r₂; exact floordiv_int hb (hQ _ _ (keeps_tk s _) (.int _ _)) (.inl hp)
theorem J_pow {l r : Expr} {pos : Pos} {a b : Int} (hl : J C n I ρ l (.int a)) (hr : J C n I ρ r (.int b)) (h0 : 0 ≤ b) (h1 : b ≤ 1000000) (h2 : a.natAbs < 2 ^ 64) : J C n I ρ (.BinOp l .Pow r pos) (.int (a ^ b.toNat)) :=
  J_bin hl hr fun s x y Q E P r₁ r₂ hQ => by cases r₁; cases r₂; exact pow_int_small h0 h1 h2 (hQ _ _ (keeps_tk s _) (.int _ _))
theorem small_div {a b : Int} (h : b.natAbs < 2 ^ 64) : Builtin.divisionGoesByPylong a b = false := by
  unfold Builtin.divisionGoesByPylong
  dsimp only
  have : ¬ ((if (b == 0) = true then 0 else b.natAbs.log2 / 30 + 1) > 300) := by
    by_cases h0 : b = 0
    · subst h0; decide
    · have h1 : b.natAbs ≠ 0 := by omega
      have h2 : b.natAbs.log2 < 64 := (Nat.log2_lt h1).mpr h
      have h3 : (b == 0) = false := by simpa using h0
      rw [h3]
      simp only [Bool.false_eq_true, if_false]
      omega
  simp only [decide_eq_false this, Bool.false_and]
theorem J_divK {l r : Expr} {pos : Pos} {a b : Int} (hl : J C n I ρ l (.int a)) (hr : J C n I ρ r (.int b)) (hb : b ≠ 0) (hp : b.natAbs < 2 ^ 64) : J C n I ρ (.BinOp l .FloorDiv r pos) (.int (a.fdiv b)) :=
  J_div hl hr hb (small_div hp)

/-- two lists joined -/
theorem J_cat {l r : Expr} {pos : Pos} {ds es : List AV} (hl : J C n I ρ l (.lst ds)) (hr : J C n I ρ r (.lst es)) (hz : ds.length + es.length ≤ 1000 := by exact Nat.le_of_ble_eq_true rfl) : J C n I ρ (.BinOp l .Add r pos) (.lst (ds ++ es)) :=
  J_bin hl hr fun s x y Q E P r₁ r₂ hQ => by
    cases r₁ with
    | lst na ea ra =>
      cases r₂ with
      | lst nb eb rb =>
        rename_i a vs m b ws k
        refine concat_meets (T := "list") ⟨_, ea, rfl⟩ ⟨_, eb, rfl⟩ noFill_list_add seq_list_add PySem.F.slot_list_add PySem.F.entry_list_add (PySem.F.args_list_add_2 _ _) (list_addW a b vs.toArray ws.toArray m k none none #[] #[] ?_) ⟨ea, eb, ?_⟩
        · rw [List.size_toArray, List.size_toArray, ra.length, rb.length]; exact Nat.le_trans hz (by decide)
        · rw [show vs.toArray ++ ws.toArray = (vs ++ ws).toArray from by simp]
          exact hQ _ _ (keeps_h' s (Kp.push _)) (.lst (P.fresh (none_size _)) (Heap.get?_push_size _ rfl) ((ra.append rb).mono (Kp.push _).but))

theorem J_cmp {l r : Expr} {op : CmpOp} {pos : Pos} {a b d : AV} (hl : J C n I ρ l a) (hr : J C n I ρ r b)
    (ho : ∀ s x y Q E, Pre C n I ρ s.heap → Rd C.X s.heap x a → Rd C.X s.heap y b → (∀ v s', Keeps s s' → Rd C.X s'.heap v d → Q v s') → wpAny (model PR C.w) C.A (compareOp op x y) Q E s)
    (hm : behindInMarks op r = false) : J C n I ρ (.Compare l [op] [r] pos) d := by
  refine ⟨fun s P Q E hQ => ?_⟩
  refine wpAny_Compare1 (hl.run s P _ _ fun x s₁ k₁ r₁ => hr.run s₁ (P.keeps k₁) _ _ fun y s₂ k₂ r₂ => ?_) hm
  exact ho s₂ x y _ _ (P.keeps (keeps_trans k₁ k₂)) (r₁.mono (keeps_kp k₂).but) r₂ fun v s₃ k₃ r₃ => hQ v s₃ (keeps_trans k₁ (keeps_trans k₂ k₃)) r₃
theorem J_eqI {l r : Expr} {pos : Pos} {a b : Int} (hl : J C n I ρ l (.int a)) (hr : J C n I ρ r (.int b)) (hm : behindInMarks .Eq r = false := by rfl) : J C n I ρ (.Compare l [.Eq] [r] pos) (.bool (a == b)) :=
  J_cmp hl hr (fun s x y Q E P r₁ r₂ hQ => by cases r₁; cases r₂; exact eq_int (hQ _ _ (keeps_refl s) (.bool _))) hm
theorem J_neI {l r : Expr} {pos : Pos} {a b : Int} (hl : J C n I ρ l (.int a)) (hr : J C n I ρ r (.int b)) (hm : behindInMarks .NotEq r = false := by rfl) : J C n I ρ (.Compare l [.NotEq] [r] pos) (.bool (a != b)) :=
  J_cmp hl hr (fun s x y Q E P r₁ r₂ hQ => by cases r₁; cases r₂; exact ne_int (hQ _ _ (keeps_refl s) (.bool _))) hm
theorem J_gtI {l r : Expr} {pos : Pos} {a b : Int} (hl : J C n I ρ l (.int a)) (hr : J C n I ρ r (.int b)) (hm : behindInMarks .Gt r = false := by rfl) : J C n I ρ (.Compare l [.Gt] [r] pos) (.bool (decide (b < a))) :=
  J_cmp hl hr (fun s x y Q E P r₁ r₂ hQ => by cases r₁; cases r₂; exact gt_int (hQ _ _ (keeps_refl s) (.bool _))) hm
theorem J_eqS {l r : Expr} {pos : Pos} {a b : Str} (hl : J C n I ρ l (.str a)) (hr : J C n I ρ r (.str b)) (hm : behindInMarks .Eq r = false := by rfl) : J C n I ρ (.Compare l [.Eq] [r] pos) (.bool (a == b)) :=
  J_cmp hl hr (fun s x y Q E P r₁ r₂ hQ => by cases r₁; cases r₂; exact eq_str (hQ _ _ (keeps_refl s) (.bool _))) hm
theorem J_neS {l r : Expr} {pos : Pos} {a b : Str} (hl : J C n I ρ l (.str a)) (hr : J C n I ρ r (.str b)) (hm : behindInMarks .NotEq r = false := by rfl) : J C n I ρ (.Compare l [.NotEq] [r] pos) (.bool (a != b)) :=
  J_cmp hl hr (fun s x y Q E P r₁ r₂ hQ => by cases r₁; cases r₂; exact ne_str (hQ _ _ (keeps_refl s) (.bool _))) hm
theorem J_neB {l r : Expr} {pos : Pos} {a b : Bool} (hl : J C n I ρ l (.bool a)) (hr : J C n I ρ r (.bool b)) (hm : behindInMarks .NotEq r = false := by rfl) : J C n I ρ (.Compare l [.NotEq] [r] pos) (.bool (a != b)) :=
  J_cmp hl hr (fun s x y Q E P r₁ r₂ hQ => by cases r₁; cases r₂; exact ne_bool (hQ _ _ (keeps_refl s) (.bool _))) hm
theorem J_inS {l r : Expr} {pos : Pos} {a b : Str} (hl : J C n I ρ l (.str a)) (hr : J C n I ρ r (.str b)) (hm : behindInMarks .In r = false := by rfl) : J C n I ρ (.Compare l [.In] [r] pos) (.bool !(Builtin.Str.occurrences b a 0 b.length 1).isEmpty) :=
  J_cmp hl hr (fun s x y Q E P r₁ r₂ hQ => by cases r₁; cases r₂; exact in_str (hQ _ _ (keeps_refl s) (.bool _))) hm

/-- and, or of two bools, both of which have a value -/
theorem J_and {l r : Expr} {pos : Pos} {a b : Bool} (hl : J C n I ρ l (.bool a)) (hr : a = true → J C n I ρ r (.bool b)) : J C n I ρ (.BoolOp .And [l, r] pos) (.bool (a && b)) := by
  refine ⟨fun s P Q E hQ => ?_⟩
  refine BoolOp_and (hl.run s P _ _ fun x s₁ k₁ r₁ => ?_)
  cases r₁
  refine wpAny_truthy_bool ?_
  cases a with
  | true => rw [if_pos rfl]; exact BoolOp_one ((hr rfl).run s₁ (P.keeps k₁) _ _ fun y s₂ k₂ r₂ => hQ y s₂ (keeps_trans k₁ k₂) (by rw [Bool.true_and]; exact r₂))
  | false => rw [if_neg Bool.false_ne_true]; exact hQ _ s₁ k₁ (by rw [Bool.false_and]; exact .bool _)
theorem J_or {l r : Expr} {pos : Pos} {a b : Bool} (hl : J C n I ρ l (.bool a)) (hr : a = false → J C n I ρ r (.bool b)) : J C n I ρ (.BoolOp .Or [l, r] pos) (.bool (a || b)) := by
  refine ⟨fun s P Q E hQ => ?_⟩
  refine BoolOp_or (hl.run s P _ _ fun x s₁ k₁ r₁ => ?_)
  cases r₁
  refine wpAny_truthy_bool ?_
  cases a with
  | false => rw [if_neg Bool.false_ne_true]; exact BoolOp_one ((hr rfl).run s₁ (P.keeps k₁) _ _ fun y s₂ k₂ r₂ => hQ y s₂ (keeps_trans k₁ k₂) (by rw [Bool.false_or]; exact r₂))
  | true => rw [if_pos rfl]; exact hQ _ s₁ k₁ (by rw [Bool.true_or]; exact .bool _)
theorem J_or3 {l m r : Expr} {pos : Pos} {a b c : Bool} (hl : J C n I ρ l (.bool a)) (hm : J C n I ρ m (.bool b)) (hr : J C n I ρ r (.bool c)) : J C n I ρ (.BoolOp .Or [l, m, r] pos) (.bool (a || (b || c))) := by
  refine ⟨fun s P Q E hQ => ?_⟩
  refine BoolOp_or (hl.run s P _ _ fun x s₁ k₁ r₁ => ?_)
  cases r₁
  refine wpAny_truthy_bool ?_
  cases a with
  | false => rw [if_neg Bool.false_ne_true]; exact (J_or (C := C) (pos := pos) hm (fun _ => hr)).run s₁ (P.keeps k₁) _ _ fun y s₂ k₂ r₂ => hQ y s₂ (keeps_trans k₁ k₂) (by rw [Bool.false_or]; exact r₂)
  | true => rw [if_pos rfl]; exact hQ _ s₁ k₁ (by rw [Bool.true_or]; exact .bool _)
theorem J_not {e : Expr} {pos : Pos} {a : Bool} (h : J C n I ρ e (.bool a)) : J C n I ρ (.UnaryOp .Not e pos) (.bool !a) := by
  refine ⟨fun s P Q E hQ => ?_⟩
  refine UnaryOp_ (h.run s P _ _ fun x s₁ k₁ r₁ => not_of ?_)
  cases r₁
  exact wpAny_truthy_bool (hQ _ s₁ k₁ (.bool _))

/-- an item at an index -/
theorem J_item {v i : Expr} {pos : Pos} {ds : List AV} {k : Int} {d : AV} (hv : J C n I ρ v (.lst ds)) (hi : J C n I ρ i (.int k)) (h0 : 0 ≤ k) (hk : k < 2 ^ 63) (hd : ds[k.toNat]? = some d)
    (hs : ∀ a t, subscripted i false (.ref a) (.int k t) = operate [.ref a, .int k t] (getItem (.ref a) (.int k t)) := by intro _ _; rfl) : J C n I ρ (.Subscript v i pos) d := by
  refine ⟨fun s P Q E hQ => ?_⟩
  refine Subscript_ (hv.run s P _ _ fun x s₁ k₁ r₁ => hi.run s₁ (P.keeps k₁) _ _ fun y s₂ k₂ r₂ => ?_)
  have r₁ := r₁.mono (keeps_kp k₂).but
  cases r₂
  cases r₁ with
  | lst na ea ra =>
    obtain ⟨x, hx, rx⟩ := ra.get hd
    have hL : s₂.heap.IsList _ _ := ⟨_, ea, rfl, _, rfl⟩
    exact tail_any hL.typeIs slot_list_getitem.lookup (wpAny_getItem_list hL h0 hk (by simpa using hx) (hQ _ _ (keeps_trans k₁ k₂) rx)) (hs _ _)
theorem J_itemT {v i : Expr} {pos : Pos} {ds : List AV} {k : Int} {d : AV} (hv : J C n I ρ v (.tup ds)) (hi : J C n I ρ i (.int k)) (h0 : 0 ≤ k) (hk : k < 2 ^ 63) (hd : ds[k.toNat]? = some d)
    (hs : ∀ a t, subscripted i false (.ref a) (.int k t) = operate [.ref a, .int k t] (getItem (.ref a) (.int k t)) := by intro _ _; rfl) : J C n I ρ (.Subscript v i pos) d := by
  refine ⟨fun s P Q E hQ => ?_⟩
  refine Subscript_ (hv.run s P _ _ fun x s₁ k₁ r₁ => hi.run s₁ (P.keeps k₁) _ _ fun y s₂ k₂ r₂ => ?_)
  have r₁ := r₁.mono (keeps_kp k₂).but
  cases r₂
  cases r₁ with
  | tup na ea ra =>
    obtain ⟨x, hx, rx⟩ := ra.get hd
    have hlt : k.toNat < ds.length := (List.getElem?_eq_some_iff.mp hd).1
    have hL : IsTup s₂.heap _ _ := ⟨_, ea, rfl, _, rfl⟩
    refine item_tupleT (j := k.toNat) hL (by omega) hk ?_ hx (hQ _ _ (keeps_trans k₁ k₂) rx) (hs _ _)
    rw [ra.length]
    have h1 : ¬ k < 0 := by omega
    have h2 : k < (ds.length : Int) := by omega
    simp [seqIndex?, h1, h2, h0]
end
end Mine
end -- J2

section -- J3
open PySem PySem.W PyProof.Rows PySem.Calls
set_option maxRecDepth 100000
namespace Mine

section
variable {C : Cx} {n : Nat} {I : Heap → Prop} {ρ : List (Str × AV)}

/-- a built-in's name -/
theorem ev_builtin {f : Str} {pos : Pos} {v : Value} {s : Shared} {Q : Value → Shared → Prop} {E : Value → Shared → Prop} (P : Pre C n I ρ s.heap) (hk : C.env.kindOf f = some .globalImplicit) (hK : nsIn (HK C.w.params) mainGlobals f = some none)
    (hv : bootBuiltins f = some v) (hn : f ≠ "__name__") (hd : (f == ("__debug__" : Str)) = false) (h : Q v s) : wpAny (model PR C.w) C.A (eval (.Name f pos) C.env) Q E s := by
  refine Name_function_global P.ok.kind hk (loadGlobal_builtin (mg := C.mg) (mb := C.mb) ?_ (mg_none_of P.ok.K P.ok.T.g hK) ?_ ((P.ok.T.builtins f hn).trans hv) h) hd
  · rw [P.ok.glob]; exact P.ok.T.g.keeps P.old
  · rw [P.ok.blt]; exact P.ok.T.b.keeps P.old
/-- a global's name -/
theorem ev_global {f : Str} {pos : Pos} {v : Value} {s : Shared} {Q : Value → Shared → Prop} {E : Value → Shared → Prop} (P : Pre C n I ρ s.heap) (hk : C.env.kindOf f = some .globalImplicit) (hK : nsIn (HK C.w.params) mainGlobals f = some (some v))
    (hd : (f == ("__debug__" : Str)) = false) (h : Q v s) : wpAny (model PR C.w) C.A (eval (.Name f pos) C.env) Q E s := by
  refine Name_function_global P.ok.kind hk (loadGlobal_global (mg := C.mg) ?_ (mg_of P.ok.K P.ok.T.g hK) h) hd
  rw [P.ok.glob]; exact P.ok.T.g.keeps P.old

/-- what a call of a built-in does to data -/
structure CallsB (C : Cx) (n : Nat) (I : Heap → Prop) (ρ : List (Str × AV)) (f : Value) (ds : List AV) (d : AV) : Prop where
  run : ∀ s vs Q E, Pre C n I ρ s.heap → RdAll C.X s.heap vs ds → (∀ v s', Keeps s s' → Rd C.X s'.heap v d → Q v s') → wpAny (model PR C.w) C.A (call f vs) Q E s

theorem J_callB {f : Str} {id : String} {fp pos : Pos} {e : Expr} {rest : List Expr} {ds : List AV} {d : AV} (ha : JL C n I ρ (e :: rest) ds) (hc : CallsB C n I ρ (.builtin id) ds d)
    (hK : nsIn (HK C.w.params) mainGlobals f = some none) (hv : bootBuiltins f = some (.builtin id))
    (hk : C.env.kindOf f = some .globalImplicit := by rfl) (hn : f ≠ "__name__" := by decide) (hd : (f == ("__debug__" : Str)) = false := by decide)
    (h2 : W.isStarred e = false := by rfl) (h3 : rest.any W.isStarred = false := by rfl) : J C n I ρ (.Call (.Name f fp) (e :: rest) [] pos) d := by
  refine ⟨fun s P Q E hQ => ?_⟩
  refine Call_ (ev_builtin P hk hK hv hn hd ?_) call_name
  refine PyProof.Rows.callWith_builtin1 (ha.run pos s P _ _ fun vs s₁ k₁ r₁ => ?_) (star_cons h2) (back_star h3)
  exact hc.run s₁ vs _ _ (P.keeps k₁) r₁ fun v s₂ k₂ r₂ => hQ v s₂ (keeps_trans k₁ k₂) r₂

theorem calls_len {ds : List AV} (hz : ds.length ≤ 1000000) : CallsB C n I ρ (.builtin "len") [.lst ds] (.int ds.length) := by
  refine ⟨fun s vs Q E P r hQ => ?_⟩
  cases r with
  | cons a r =>
    cases r
    cases a with
    | lst na ea ra =>
      have hl := ra.length
      refine len_list ⟨_, ea, rfl, _, rfl⟩ ?_ ?_
      · rw [List.size_toArray, hl]; omega
      · rw [List.size_toArray, hl]; exact hQ _ _ (keeps_tk s _) (.int _ _)
/-- sorted: some rising list of the same ints -/
theorem calls_sorted {ns ms : List Int} (hz : ns.length < 64) (hm : ∀ ks : List Int, ks.Perm ns → ks.Pairwise (· ≤ ·) → ks = ms) : CallsB C n I ρ (.builtin "sorted") [.lst (ns.map .int)] (.lst (ms.map .int)) := by
  refine ⟨fun s vs Q E P r hQ => ?_⟩
  cases r with
  | cons a r =>
    cases r
    cases a with
    | lst na ea ra =>
      rename_i a ws m
      have hl := ra.length
      refine sorted_ints (vs := ws) ⟨_, ea, rfl, _, rfl⟩ ra.ints (by rw [hl, List.length_map]; exact hz) fun out ks hi hp ho => ?_
      have hk := hm ks hp ho
      subst hk
      obtain ⟨e, he⟩ := sortedAll_at s.heap ws out
      have kp : Kp s.heap (sortedAll s.heap ws out) := fun _ _ => sortedAll_old
      refine hQ _ _ (keeps_h' s kp) (.lst (P.fresh ?_) (vs := out.toList) (n := e) (by simpa [seqObj] using he) (RdAll.ofInts hi))
      cases q : s.heap.get? (s.heap.objs.size + 1) with
      | none => rfl
      | some o => exact absurd (Heap.lt_size q) (Nat.not_lt.mpr (Nat.le_succ _))
theorem calls_max {ns : List Int} {M : Int} (h1 : M ∈ ns) (h2 : ∀ a ∈ ns, a ≤ M) : CallsB C n I ρ (.builtin "max") [.lst (ns.map .int)] (.int M) := by
  refine ⟨fun s vs Q E P r hQ => ?_⟩
  cases r with
  | cons a r =>
    cases r
    cases a with
    | lst na ea ra =>
      rename_i a ws m
      have hi := ra.ints
      have hl : s.heap.IsList a ws.toArray := ⟨_, ea, rfl, _, rfl⟩
      obtain ⟨xs, e⟩ := hi.allInts.items
      have hns : ns = xs.toList.map (·.1) := by rw [← hi.numsOf, ← nums_intItems, ← e]
      have hsz : 0 < xs.size := by
        have h3 : 0 < ns.length := List.length_pos_of_mem h1
        rw [hns, List.length_map, Array.length_toList] at h3; exact h3
      rw [e] at hl
      refine max_intList P.ok.hh hl hsz fun v h' tk hv hk => ?_
      obtain ⟨t, rfl⟩ := intItems_at hv
      obtain ⟨q1, q2⟩ := argBest_gt (numAt xs) (xs.size - 1)
      have m1 : numAt xs (argBest (fun i j => decide (numAt xs i > numAt xs j)) (xs.size - 1)) ∈ ns := by
        rw [hns, numAt_eq]; exact getD_mem (by rw [List.length_map, Array.length_toList]; omega)
      have m2 : M ≤ numAt xs (argBest (fun i j => decide (numAt xs i > numAt xs j)) (xs.size - 1)) := by
        rw [hns] at h1
        obtain ⟨j, hj, rfl⟩ := mem_getD h1
        rw [List.length_map, Array.length_toList] at hj
        rw [← numAt_eq]; exact q2 j (by omega)
      have : M = numAt xs (argBest (fun i j => decide (numAt xs i > numAt xs j)) (xs.size - 1)) := Int.le_antisymm m2 (h2 _ m1)
      rw [this] at hQ
      exact hQ _ _ (keeps_h s tk hk) (.int _ _)
theorem calls_min {ns : List Int} {M : Int} (h1 : M ∈ ns) (h2 : ∀ a ∈ ns, M ≤ a) : CallsB C n I ρ (.builtin "min") [.lst (ns.map .int)] (.int M) := by
  refine ⟨fun s vs Q E P r hQ => ?_⟩
  cases r with
  | cons a r =>
    cases r
    cases a with
    | lst na ea ra =>
      rename_i a ws m
      have hi := ra.ints
      have hl : s.heap.IsList a ws.toArray := ⟨_, ea, rfl, _, rfl⟩
      obtain ⟨xs, e⟩ := hi.allInts.items
      have hns : ns = xs.toList.map (·.1) := by rw [← hi.numsOf, ← nums_intItems, ← e]
      have hsz : 0 < xs.size := by
        have h3 : 0 < ns.length := List.length_pos_of_mem h1
        rw [hns, List.length_map, Array.length_toList] at h3; exact h3
      rw [e] at hl
      refine min_intList P.ok.hh hl hsz fun v h' tk hv hk => ?_
      obtain ⟨t, rfl⟩ := intItems_at hv
      obtain ⟨q1, q2⟩ := argBest_lt (numAt xs) (xs.size - 1)
      have m1 : numAt xs (argBest (fun i j => decide (numAt xs i < numAt xs j)) (xs.size - 1)) ∈ ns := by
        rw [hns, numAt_eq]; exact getD_mem (by rw [List.length_map, Array.length_toList]; omega)
      have m2 : numAt xs (argBest (fun i j => decide (numAt xs i < numAt xs j)) (xs.size - 1)) ≤ M := by
        rw [hns] at h1
        obtain ⟨j, hj, rfl⟩ := mem_getD h1
        rw [List.length_map, Array.length_toList] at hj
        rw [← numAt_eq]; exact q2 j (by omega)
      have : M = numAt xs (argBest (fun i j => decide (numAt xs i < numAt xs j)) (xs.size - 1)) := Int.le_antisymm (h2 _ m1) m2
      rw [this] at hQ
      exact hQ _ _ (keeps_h s tk hk) (.int _ _)
theorem calls_sum {ns : List Int} : CallsB C n I ρ (.builtin "sum") [.lst (ns.map .int)] (.int ns.sum) := by
  refine ⟨fun s vs Q E P r hQ => ?_⟩
  cases r with
  | cons a r =>
    cases r
    cases a with
    | lst na ea ra =>
      rename_i a ws m
      have hi := ra.ints
      have hl : s.heap.IsList a ws.toArray := ⟨_, ea, rfl, _, rfl⟩
      obtain ⟨xs, hx⟩ := hi.allInts.items
      have hl' : s.heap.IsList a (intItems xs) := hx ▸ hl
      refine sum_intListG P.ok.hh hl' fun h' tk t' hk => ?_
      have e1 : ns = xs.toList.map (·.1) := by rw [← nums_intItems, ← hx]; exact hi.numsOf.symm
      have e2 : preSum (numAt xs) xs.size = ns.sum := by rw [preSum_eq, List.take_of_length_le (by simp), e1]
      rw [e2]
      exact hQ _ _ (keeps_h s tk hk) (.int _ _)

theorem no_len (w : World) : nsIn (HK w.params) mainGlobals "len" = some none := by kernel_rfl
theorem no_sorted (w : World) : nsIn (HK w.params) mainGlobals "sorted" = some none := by kernel_rfl
theorem no_max (w : World) : nsIn (HK w.params) mainGlobals "max" = some none := by kernel_rfl
theorem no_min (w : World) : nsIn (HK w.params) mainGlobals "min" = some none := by kernel_rfl
theorem no_sum (w : World) : nsIn (HK w.params) mainGlobals "sum" = some none := by kernel_rfl
theorem no_range (w : World) : nsIn (HK w.params) mainGlobals "range" = some none := by kernel_rfl
theorem bt_len : bootBuiltins "len" = some (.builtin "len") := by kernel_rfl
theorem bt_sorted : bootBuiltins "sorted" = some (.builtin "sorted") := by kernel_rfl
theorem bt_max : bootBuiltins "max" = some (.builtin "max") := by kernel_rfl
theorem bt_min : bootBuiltins "min" = some (.builtin "min") := by kernel_rfl
theorem bt_sum : bootBuiltins "sum" = some (.builtin "sum") := by kernel_rfl
theorem bt_range : bootBuiltins "range" = some (.type "range") := by kernel_rfl
end
end Mine
end -- J3

section -- J4
open PySem PySem.W PyProof.Rows PySem.Calls
set_option maxRecDepth 100000
namespace Mine

theorem ns_one {h : Heap} {a : Addr} {m m' : Str → Option Value} (x : h.Ns a m) (y : h.Ns a m') : m = m' := by
  obtain ⟨o, es, ep, e, d, _, f⟩ := x
  obtain ⟨o', es', ep', e', d', _, f'⟩ := y
  rw [e] at e'; cases e'
  rw [d] at d'; cases d'
  funext z
  rw [← f z, ← f' z]
theorem cell_one {h : Heap} {c : Addr} {v v' : Option Value} (x : h.IsCell c v) (y : h.IsCell c v') : v = v' := by
  obtain ⟨o, e, d⟩ := x
  obtain ⟨o', e', d'⟩ := y
  rw [e] at e'; cases e'
  rw [d] at d'; cases d'; rfl
theorem ns_not_cell {h : Heap} {a : Addr} {m : Str → Option Value} {v : Option Value} (x : h.Ns a m) (y : h.IsCell a v) : False := by
  obtain ⟨o, es, ep, e, d, _⟩ := x
  obtain ⟨o', e', d'⟩ := y
  rw [e] at e'; cases e'
  rw [d] at d'; cases d'

theorem cell_ne {h : Heap} {a c : Addr} {m : Str → Option Value} {v : Option Value} (x : h.Ns a m) (y : h.IsCell c v) : c ≠ a := fun q => ns_not_cell x (q ▸ y)
theorem cell_same {h h' : Heap} {a c : Addr} {v : Option Value} (hs : Heap.SameBut a h h') (y : h.IsCell c v) (q : c ≠ a) : h'.IsCell c v := let ⟨o, e, d⟩ := y; ⟨o, (hs.2 _ q).trans e, d⟩
noncomputable def iterNames : List String := ["list_iterator", "tuple_iterator", "range_iterator", "str_ascii_iterator", "str_iterator", "dict_keyiterator"]
noncomputable def isIter (o : Obj) : Bool := match o.cls with | .type T => iterNames.contains T | _ => false
/-- all old objects but those of F and the iterators stay -/
noncomputable def KpIt (F : List Addr) (h h' : Heap) : Prop := ∀ b o, b ∉ F → isIter o = false → h.get? b = some o → h'.get? b = some o
theorem KpBut.it {F : List Addr} {h h' : Heap} (k : KpBut F h h') : KpIt F h h' := fun b o n _ e => k b o n e
/-- the addresses that a frame's own stores change -/
noncomputable def frA (env : Env) : List Addr := env.locals :: env.cells.map (·.2)

/-- a frame that can be stored into -/
structure Fw (C : Cx) (h : Heap) : Prop where
  ns : ∃ m, h.Ns C.env.locals m
  inW : ∀ a ∈ frA C.env, a ∈ C.W
  cell : ∀ x c, C.env.cells.lookup x = some c → ∃ v, h.IsCell c v
  inj : ∀ x y c, C.env.cells.lookup x = some c → C.env.cells.lookup y = some c → x = y
theorem Fw.kp {C : Cx} {h h' : Heap} (F : Fw C h) (k : Kp h h') : Fw C h' :=
  ⟨let ⟨m, x⟩ := F.ns; ⟨m, x.keeps k⟩, F.inW, fun x c e => let ⟨v, y⟩ := F.cell x c e; ⟨v, Heap.IsCell.kp k y⟩, F.inj⟩

/-- a state in which statements of a frame run -/
structure SP (C : Cx) (n : Nat) (I : Heap → Prop) (ρ : List (Str × AV)) (h : Heap) : Prop extends Pre C n I ρ h where
  fw : Fw C h
  sf : ∀ h h', KpIt (frA C.env) h h' → I h → I h'
theorem SP.kp {C : Cx} {n : Nat} {I : Heap → Prop} {ρ : List (Str × AV)} {h h' : Heap} (P : SP C n I ρ h) (k : Kp h h') : SP C n I ρ h' := ⟨P.toPre.kp k, P.fw.kp k, P.sf⟩
theorem SP.keeps {C : Cx} {n : Nat} {I : Heap → Prop} {ρ : List (Str × AV)} {s s' : Shared} (P : SP C n I ρ s.heap) (k : Keeps s s') : SP C n I ρ s'.heap := P.kp (keeps_kp k)

/-- what may have changed: the objects of W -/
noncomputable def Ch (X : List Addr) (s s' : Shared) : Prop := ∃ h tk, s' = { s with heap := h, toks := tk } ∧ KpBut X s.heap h
theorem Ch.refl (X : List Addr) (s : Shared) : Ch X s s := ⟨s.heap, s.toks, rfl, fun _ _ _ e => e⟩
theorem Ch.trans {X : List Addr} {a b c : Shared} (h : Ch X a b) (k : Ch X b c) : Ch X a c := by
  obtain ⟨h1, t1, rfl, k1⟩ := h
  obtain ⟨h2, t2, rfl, k2⟩ := k
  exact ⟨h2, t2, rfl, k1.trans k2⟩
theorem Ch.mono {X Y : List Addr} {s s' : Shared} (h : Ch X s s') (k : ∀ a ∈ X, a ∈ Y) : Ch Y s s' := by
  obtain ⟨h, t, rfl, q⟩ := h
  exact ⟨h, t, rfl, q.mono k⟩
theorem Ch.of {X : List Addr} {s s' : Shared} (k : Keeps s s') : Ch X s s' := by
  obtain ⟨h, t, rfl, k⟩ := k
  exact ⟨h, t, rfl, fun x o _ e => k x o e⟩

theorem lookup_cons_ne {x y : Str} {d : AV} {ρ : List (Str × AV)} (h : x ≠ y) : ((y, d) :: ρ).lookup x = ρ.lookup x := by
  have : (x == y) = false := by simpa using h
  rw [List.lookup_cons, this]
theorem lookup_cons_eq {x : Str} {d : AV} {ρ : List (Str × AV)} : ((x, d) :: ρ).lookup x = some d := by
  rw [List.lookup_cons, beq_self_eq_true]

section
variable {C : Cx} {n : Nat} {I : Heap → Prop} {ρ : List (Str × AV)}

/-- a heap that differs from one that bears ρ at one address of the frame, where the new value stands -/
theorem SP.put {h h' : Heap} {x : Str} {v : Value} {d : AV} {a : Addr} (P : SP C n I ρ h) (ha : a ∈ frA C.env) (hs : Heap.SameBut a h h') (hx : ∃ o, h'.get? a = some o) (r : Rd C.X h v d)
    (hl : Look C.env h' x v) (ho : ∀ y u, y ≠ x → Look C.env h y u → Look C.env h' y u) (hf : Fw C h') : SP C n I ((x, d) :: ρ) h' := by
  have kX : KpBut C.X h h' := fun b o nb e => (hs.2 b fun q => nb (q ▸ P.ok.sub _ (P.fw.inW a ha))).trans e
  have kF : KpBut (frA C.env) h h' := fun b o nb e => (hs.2 b fun q => nb (q ▸ ha)).trans e
  refine ⟨⟨P.ok, fun b o e => kX b o (fun m => ?_) (P.old b o e), fun b hb => ?_, P.sf _ _ kF.it P.inv, P.st, fun y e he => ?_⟩, hf, P.sf⟩
  · have := P.ok.low b m; rw [e] at this; cases this
  · by_cases q : b = a
    · subst q; exact hx
    · obtain ⟨o, e⟩ := P.ex b hb; exact ⟨o, (hs.2 b q).trans e⟩
  · by_cases q : y = x
    · subst q
      rw [lookup_cons_eq] at he
      cases he
      exact ⟨v, hl, r.mono kX⟩
    · rw [lookup_cons_ne q] at he
      obtain ⟨u, l, r'⟩ := P.vars y e he
      exact ⟨u, ho y u q l, r'.mono kX⟩

theorem store_loc {s : Shared} {x : Str} {v : Value} {d : AV} {Q : Unit → Shared → Prop} {E : Value → Shared → Prop} (P : SP C n I ρ s.heap) (hk : C.env.kindOf x = some .local) (r : Rd C.X s.heap v d)
    (hQ : ∀ s', Ch (frA C.env) s s' → SP C n I ((x, d) :: ρ) s'.heap → Q () s') : wpAny (model PR C.w) C.A (storeName C.env x v) Q E s := by
  obtain ⟨m, hm⟩ := P.fw.ns
  have hL : C.env.locals ∈ frA C.env := .head _
  refine wpAny_storeName_local hk hm (fun h' hn hs => ?_) (by rw [P.ok.kind]; rfl)
  refine hQ _ ⟨h', s.toks + 1, rfl, fun b o nb e => (hs.2 b fun q => nb (q ▸ hL)).trans e⟩ (P.put (a := C.env.locals) hL hs ?_ r ?_ ?_ ?_)
  · obtain ⟨o, _, _, e, _⟩ := hn; exact ⟨o, e⟩
  · exact .loc hk hn (by simp)
  · intro y u q l
    cases l with
    | loc a b c =>
      have := ns_one hm b; subst this
      exact .loc a hn (by simp [q, c])
    | cell a b c => exact .cell a b (cell_same hs c (cell_ne hm c))
    | free a z b c => exact .free a z b (cell_same hs c (cell_ne hm c))
  · refine ⟨⟨_, hn⟩, P.fw.inW, fun y c e => ?_, P.fw.inj⟩
    obtain ⟨u, hu⟩ := P.fw.cell y c e
    exact ⟨u, cell_same hs hu (cell_ne hm hu)⟩
theorem lookup_mem {α : Type} {x : Str} {c : α} : ∀ {l : List (Str × α)}, l.lookup x = some c → (x, c) ∈ l
  | [], e => by simp at e
  | (y, d) :: r, e => by
    rw [List.lookup_cons] at e
    cases q : x == y with
    | true => rw [q] at e; cases e; rw [eq_of_beq q]; exact .head _
    | false => rw [q] at e; exact .tail _ (lookup_mem e)
theorem store_cell {s : Shared} {x : Str} {c : Addr} {v : Value} {d : AV} {Q : Unit → Shared → Prop} {E : Value → Shared → Prop} (P : SP C n I ρ s.heap) (hk : C.env.kindOf x = some .cell) (hc : C.env.cells.lookup x = some c) (r : Rd C.X s.heap v d)
    (hQ : ∀ s', Ch (frA C.env) s s' → SP C n I ((x, d) :: ρ) s'.heap → Q () s') : wpAny (model PR C.w) C.A (storeName C.env x v) Q E s := by
  obtain ⟨m, hm⟩ := P.fw.ns
  obtain ⟨v₀, hv₀⟩ := P.fw.cell x c hc
  have hL : c ∈ frA C.env := .tail _ (List.mem_map.mpr ⟨(x, c), lookup_mem hc, rfl⟩)
  refine wpAny_storeName_cell P.ok.kind hk hc hv₀ fun h' hn hs => ?_
  have hns : C.env.locals ≠ c := fun q => ns_not_cell hm (q ▸ hv₀)
  refine hQ _ ⟨h', s.toks, rfl, fun b o nb e => (hs.2 b fun q => nb (q ▸ hL)).trans e⟩ (P.put (a := c) hL hs ?_ r ?_ ?_ ?_)
  · obtain ⟨o, e, _⟩ := hn; exact ⟨o, e⟩
  · exact .cell hk hc hn
  · intro y u q l
    have other : ∀ c', C.env.cells.lookup y = some c' → c' ≠ c := fun c' e q' => q (P.fw.inj y x c (q' ▸ e) hc)
    cases l with
    | loc a b e => exact .loc a (b.sameBut hs hns) e
    | cell a b e => exact .cell a b (cell_same hs e (other _ b))
    | free a z b e => exact .free a z b (cell_same hs e (other _ b))
  · refine ⟨⟨m, hm.sameBut hs hns⟩, P.fw.inW, fun y c' e => ?_, P.fw.inj⟩
    by_cases q : c' = c
    · subst q; exact ⟨_, hn⟩
    · obtain ⟨u, hu⟩ := P.fw.cell y c' e
      exact ⟨u, cell_same hs hu q⟩

/-- x is one of the frame's own names -/
noncomputable def Own (C : Cx) (x : Str) : Prop := C.env.kindOf x = some .local ∨ (C.env.kindOf x = some .cell ∧ ∃ c, C.env.cells.lookup x = some c)
theorem Own.loc {x : Str} (h : C.env.kindOf x = some .local) : Own C x := .inl h
theorem Own.cell {x : Str} {c : Addr} (h : C.env.kindOf x = some .cell) (k : C.env.cells.lookup x = some c) : Own C x := .inr ⟨h, c, k⟩
theorem store {s : Shared} {x : Str} {v : Value} {d : AV} {Q : Unit → Shared → Prop} {E : Value → Shared → Prop} (P : SP C n I ρ s.heap) (hk : Own C x) (r : Rd C.X s.heap v d)
    (hQ : ∀ s', Ch (frA C.env) s s' → SP C n I ((x, d) :: ρ) s'.heap → Q () s') : wpAny (model PR C.w) C.A (storeName C.env x v) Q E s := by
  rcases hk with hk | ⟨hk, c, hc⟩
  · exact store_loc P hk r hQ
  · exact store_cell P hk hc r hQ

/-- how a list of statements ends -/
inductive Out where
  | next (I : Heap → Prop) (ρ : List (Str × AV))
  | ret (I : Heap → Prop) (d : AV)
structure JS (C : Cx) (n : Nat) (I : Heap → Prop) (ρ : List (Str × AV)) (sts : List Stmt) (Post : Out → Prop) : Prop where
  run : ∀ s, SP C n I ρ s.heap → ∀ Q E, (∀ I' ρ' s', Post (.next I' ρ') → Ch C.W s s' → SP C n I' ρ' s'.heap → Q .next s') →
    (∀ I' ρ' d v s', Post (.ret I' d) → Ch C.W s s' → SP C n I' ρ' s'.heap → Rd C.X s'.heap v d → Q (.ret v) s') → wpAny (model PR C.w) C.A (execs sts C.env) Q E s
/-- one statement -/
structure JO (C : Cx) (n : Nat) (I : Heap → Prop) (ρ : List (Str × AV)) (st : Stmt) (Post : Out → Prop) : Prop where
  run : ∀ s, SP C n I ρ s.heap → ∀ Q E, (∀ I' ρ' s', Post (.next I' ρ') → Ch C.W s s' → SP C n I' ρ' s'.heap → Q .next s') →
    (∀ I' ρ' d v s', Post (.ret I' d) → Ch C.W s s' → SP C n I' ρ' s'.heap → Rd C.X s'.heap v d → Q (.ret v) s') → wpAny (model PR C.w) C.A (exec st C.env) Q E s

theorem JS_nil {Post : Out → Prop} (h : Post (.next I ρ)) : JS C n I ρ [] Post := ⟨fun s P _ _ hN _ => wpAny_execs_nil (hN I ρ s h (Ch.refl _ s) P)⟩
theorem JS_cons {st : Stmt} {rest : List Stmt} {Post Mid : Out → Prop} (h : JO C n I ρ st Mid) (hn : ∀ I' ρ', Mid (.next I' ρ') → JS C n I' ρ' rest Post) (hr : ∀ I' d, Mid (.ret I' d) → Post (.ret I' d)) : JS C n I ρ (st :: rest) Post := by
  refine ⟨fun s P Q E hN hR => ?_⟩
  refine wpAny_execs_cons (h.run s P _ _ (fun I' ρ' s' hm k P' => ?_) fun I' ρ' d v s' hm k P' r => hR I' ρ' d v s' (hr _ _ hm) k P' r)
  exact (hn I' ρ' hm).run s' P' _ _ (fun I'' ρ'' s'' hp k' P'' => hN _ _ _ hp (k.trans k') P'') fun I'' ρ'' d v s'' hp k' P'' r => hR _ _ _ _ _ hp (k.trans k') P'' r
theorem JS_mono {sts : List Stmt} {Post Post' : Out → Prop} (h : JS C n I ρ sts Post) (k : ∀ o, Post o → Post' o) : JS C n I ρ sts Post' :=
  ⟨fun s P Q E hN hR => h.run s P Q E (fun I' ρ' s' p => hN I' ρ' s' (k _ p)) fun I' ρ' d v s' p => hR I' ρ' d v s' (k _ p)⟩

theorem JS_assign {x : Str} {xp pos : Pos} {e : Expr} {rest : List Stmt} {d : AV} {Post : Out → Prop} (h : J C n I ρ e d) (hx : Own C x) (k : JS C n I ((x, d) :: ρ) rest Post)
    (hs : swapsWith e (some (.Name x xp)) pos.line C.env = pure false := by rfl) : JS C n I ρ (.Assign [.Name x xp] e pos :: rest) Post := by
  refine ⟨fun s P Q E hN hR => ?_⟩
  refine wpAny_execs_cons (wpAny_Assign_Name (h.run s P.toPre _ _ fun v s₁ k₁ r₁ => store (P.keeps k₁) hx r₁ fun s₂ k₂ P₂ => ?_) hs)
  exact k.run s₂ P₂ _ _ (fun I' ρ' s' p c => hN I' ρ' s' p ((Ch.of k₁).trans ((k₂.mono P.fw.inW).trans c))) fun I' ρ' d v s' p c => hR I' ρ' d v s' p ((Ch.of k₁).trans ((k₂.mono P.fw.inW).trans c))
theorem JS_ret {e : Expr} {pos : Pos} {rest : List Stmt} {d : AV} {Post : Out → Prop} (h : J C n I ρ e d) (k : Post (.ret I d)) : JS C n I ρ (.Return (some e) pos :: rest) Post := by
  refine ⟨fun s P Q E hN hR => ?_⟩
  exact wpAny_execs_cons (wpAny_Return_some (h.run s P.toPre _ _ fun v s₁ k₁ r₁ => hR I ρ d v s₁ k (Ch.of k₁) (P.keeps k₁) r₁))

/-- a test -/
structure JB (C : Cx) (n : Nat) (I : Heap → Prop) (ρ : List (Str × AV)) (e : Expr) (b : Bool) : Prop where
  run : ∀ s, Pre C n I ρ s.heap → ∀ Q E, (∀ s', Keeps s s' → Q b s') → wpAny (model PR C.w) C.A (isTrue e C.env (eval e C.env)) Q E s
theorem JS_if {e : Expr} {body orelse rest : List Stmt} {pos : Pos} {b : Bool} {Post Mid : Out → Prop} (h : JB C n I ρ e b) (h1 : b = true → JS C n I ρ body Mid) (h2 : b = false → JS C n I ρ orelse Mid)
    (hn : ∀ I' ρ', Mid (.next I' ρ') → JS C n I' ρ' rest Post) (hr : ∀ I' d, Mid (.ret I' d) → Post (.ret I' d)) : JS C n I ρ (.If e body orelse pos :: rest) Post := by
  refine JS_cons (Mid := Mid) ⟨fun s P Q E hN hR => wpAny_If (h.run s P.toPre _ _ fun s₁ k₁ => ?_)⟩ hn hr
  cases b with
  | true => rw [if_pos rfl]; exact (h1 rfl).run s₁ (P.keeps k₁) _ _ (fun I' ρ' s' p c => hN I' ρ' s' p ((Ch.of k₁).trans c)) fun I' ρ' d v s' p c => hR I' ρ' d v s' p ((Ch.of k₁).trans c)
  | false => rw [if_neg Bool.false_ne_true]; exact (h2 rfl).run s₁ (P.keeps k₁) _ _ (fun I' ρ' s' p c => hN I' ρ' s' p ((Ch.of k₁).trans c)) fun I' ρ' d v s' p c => hR I' ρ' d v s' p ((Ch.of k₁).trans c)
theorem JB_cast {e : Expr} {b c : Bool} (h : b = c) (k : JB C n I ρ e b) : JB C n I ρ e c := h ▸ k
theorem JB_plain {e : Expr} {b : Bool} (h : J C n I ρ e (.bool b)) (hp : isTrue e C.env (eval e C.env) = (do let v ← eval e C.env; standAt e.pos; holding [v] (truthy v)) := by rfl) : JB C n I ρ e b := by
  refine ⟨fun s P Q E hQ => ?_⟩
  refine isTrue_plain (h.run s P _ _ fun v s₁ k₁ r₁ => ?_) hp
  cases r₁
  exact wpAny_truthy_bool (hQ s₁ k₁)
theorem JB_cmp {l r : Expr} {op : CmpOp} {pos : Pos} {a b : AV} {c : Bool} (hl : J C n I ρ l a) (hr : J C n I ρ r b)
    (ho : ∀ s x y Q E, Pre C n I ρ s.heap → Rd C.X s.heap x a → Rd C.X s.heap y b → (∀ v s', Keeps s s' → Rd C.X s'.heap v (.bool c) → Q v s') → wpAny (model PR C.w) C.A (compareOp op x y) Q E s)
    (hm : behindInMarks op r = false) : JB C n I ρ (.Compare l [op] [r] pos) c := by
  refine ⟨fun s P Q E hQ => ?_⟩
  refine wpAny_isTrue_Compare1 (hl.run s P _ _ fun x s₁ k₁ r₁ => hr.run s₁ (P.keeps k₁) _ _ fun y s₂ k₂ r₂ => ?_) hm
  refine ho s₂ x y _ _ (P.keeps (keeps_trans k₁ k₂)) (r₁.mono (keeps_kp k₂).but) r₂ fun v s₃ k₃ r₃ => ?_
  cases r₃
  exact wpAny_truthy_bool (hQ s₃ (keeps_trans k₁ (keeps_trans k₂ k₃)))
theorem JB_eqI {l r : Expr} {pos : Pos} {a b : Int} (hl : J C n I ρ l (.int a)) (hr : J C n I ρ r (.int b)) (hm : behindInMarks .Eq r = false := by rfl) : JB C n I ρ (.Compare l [.Eq] [r] pos) (a == b) :=
  JB_cmp hl hr (fun s x y Q E P r₁ r₂ hQ => by cases r₁; cases r₂; exact eq_int (hQ _ _ (keeps_refl s) (.bool _))) hm
theorem JB_neI {l r : Expr} {pos : Pos} {a b : Int} (hl : J C n I ρ l (.int a)) (hr : J C n I ρ r (.int b)) (hm : behindInMarks .NotEq r = false := by rfl) : JB C n I ρ (.Compare l [.NotEq] [r] pos) (a != b) :=
  JB_cmp hl hr (fun s x y Q E P r₁ r₂ hQ => by cases r₁; cases r₂; exact ne_int (hQ _ _ (keeps_refl s) (.bool _))) hm
theorem JB_gtI {l r : Expr} {pos : Pos} {a b : Int} (hl : J C n I ρ l (.int a)) (hr : J C n I ρ r (.int b)) (hm : behindInMarks .Gt r = false := by rfl) : JB C n I ρ (.Compare l [.Gt] [r] pos) (decide (b < a)) :=
  JB_cmp hl hr (fun s x y Q E P r₁ r₂ hQ => by cases r₁; cases r₂; exact gt_int (hQ _ _ (keeps_refl s) (.bool _))) hm
theorem JB_eqS {l r : Expr} {pos : Pos} {a b : Str} (hl : J C n I ρ l (.str a)) (hr : J C n I ρ r (.str b)) (hm : behindInMarks .Eq r = false := by rfl) : JB C n I ρ (.Compare l [.Eq] [r] pos) (a == b) :=
  JB_cmp hl hr (fun s x y Q E P r₁ r₂ hQ => by cases r₁; cases r₂; exact eq_str (hQ _ _ (keeps_refl s) (.bool _))) hm
theorem JB_neS {l r : Expr} {pos : Pos} {a b : Str} (hl : J C n I ρ l (.str a)) (hr : J C n I ρ r (.str b)) (hm : behindInMarks .NotEq r = false := by rfl) : JB C n I ρ (.Compare l [.NotEq] [r] pos) (a != b) :=
  JB_cmp hl hr (fun s x y Q E P r₁ r₂ hQ => by cases r₁; cases r₂; exact ne_str (hQ _ _ (keeps_refl s) (.bool _))) hm
theorem JB_inS {l r : Expr} {pos : Pos} {a b : Str} (hl : J C n I ρ l (.str a)) (hr : J C n I ρ r (.str b)) (hm : behindInMarks .In r = false := by rfl) : JB C n I ρ (.Compare l [.In] [r] pos) !(Builtin.Str.occurrences b a 0 b.length 1).isEmpty :=
  JB_cmp hl hr (fun s x y Q E P r₁ r₂ hQ => by cases r₁; cases r₂; exact in_str (hQ _ _ (keeps_refl s) (.bool _))) hm
end
end Mine
end -- J4

section -- J5
open PySem PySem.W PyProof.Rows PySem.Calls
set_option maxRecDepth 100000
namespace Mine

theorem bindL_out {kind : Str → Option NameKind} {x : Str} : ∀ {r : List (Str × Value)} {m : Str → Option Value}, x ∉ r.map (·.1) → bindL kind r m x = m x
  | [], _, _ => rfl
  | (y, u) :: r, m, h => by
    rw [List.map_cons, List.mem_cons, not_or] at h
    rw [bindL, bindL_out h.2]
    by_cases k : kind y = some .local
    · rw [if_pos k]; simp [h.1]
    · rw [if_neg k]
theorem bindC_out {kind : Str → Option NameKind} {x : Str} : ∀ {r : List (Str × Value)} {m : Str → Option Value}, x ∉ r.map (·.1) → bindC kind r m x = m x
  | [], _, _ => rfl
  | (y, u) :: r, m, h => by
    rw [List.map_cons, List.mem_cons, not_or] at h
    rw [bindC, bindC_out h.2]
    by_cases k : kind y = some .local
    · rw [if_pos k]
    · rw [if_neg k]; simp [h.1]
theorem bindL_at {kind : Str → Option NameKind} {x : Str} {v : Value} (hk : kind x = some .local) : ∀ {r : List (Str × Value)} {m : Str → Option Value}, (r.map (·.1)).Nodup → r.lookup x = some v → bindL kind r m x = some v
  | [], _, _, e => by simp at e
  | (y, u) :: r, m, hn, e => by
    rw [List.map_cons, List.nodup_cons] at hn
    rw [List.lookup_cons] at e
    rw [bindL]
    cases q : x == y with
    | true =>
      rw [q] at e
      cases e
      have := eq_of_beq q
      subst this
      rw [if_pos hk, bindL_out hn.1]
      simp
    | false => rw [q] at e; exact bindL_at hk hn.2 e
theorem bindC_at {kind : Str → Option NameKind} {x : Str} {v : Value} (hk : kind x = some .cell) : ∀ {r : List (Str × Value)} {m : Str → Option Value}, (r.map (·.1)).Nodup → r.lookup x = some v → bindC kind r m x = some v
  | [], _, _, e => by simp at e
  | (y, u) :: r, m, hn, e => by
    rw [List.map_cons, List.nodup_cons] at hn
    rw [List.lookup_cons] at e
    rw [bindC]
    cases q : x == y with
    | true =>
      rw [q] at e
      cases e
      have := eq_of_beq q
      subst this
      rw [if_neg (by rw [hk]; decide), bindC_out hn.1]
      simp
    | false => rw [q] at e; exact bindC_at hk hn.2 e

theorem cellsFrom_names : ∀ (names : List (Str × NameKind)) (a b : Nat) (acc acc' : List (Str × Addr)), acc.map (·.1) = acc'.map (·.1) → (cellsFrom a names acc).map (·.1) = (cellsFrom b names acc').map (·.1)
  | [], _, _, _, _, h => h
  | (x, k) :: r, a, b, acc, acc', h => by
    unfold cellsFrom
    by_cases q : (k == .cell) = true
    · rw [if_pos q, if_pos q]; exact cellsFrom_names r _ _ _ _ (by rw [List.map_cons, List.map_cons, h])
    · rw [if_neg q, if_neg q]; exact cellsFrom_names r _ _ _ _ h
theorem lookup_of_mem {x : Str} {c : Addr} : ∀ {l : List (Str × Addr)}, (l.map (·.1)).Nodup → (x, c) ∈ l → l.lookup x = some c
  | (y, d) :: r, hn, h => by
    rw [List.map_cons, List.nodup_cons] at hn
    rw [List.lookup_cons]
    rcases List.mem_cons.mp h with e | h
    · cases e; rw [beq_self_eq_true]
    · have : x ≠ y := fun q => hn.1 (q ▸ List.mem_map.mpr ⟨(x, c), h, rfl⟩)
      have : (x == y) = false := by simpa using this
      rw [this]
      exact lookup_of_mem hn.2 h
/-- the values of the parameters read as data -/
inductive RdB (X : List Addr) (h : Heap) : List (Str × Value) → List (Str × AV) → Prop
  | nil : RdB X h [] []
  | cons {x : Str} {v : Value} {d : AV} {b : List (Str × Value)} {ρ : List (Str × AV)} : Rd X h v d → RdB X h b ρ → RdB X h ((x, v) :: b) ((x, d) :: ρ)
theorem RdB.at {X : List Addr} {h : Heap} {x : Str} {d : AV} : ∀ {b : List (Str × Value)} {ρ : List (Str × AV)}, RdB X h b ρ → ρ.lookup x = some d → ∃ v, b.lookup x = some v ∧ Rd X h v d
  | _, _, .nil, e => by simp at e
  | _, _, .cons (x := y) r t, e => by
    rw [List.lookup_cons] at e ⊢
    cases q : x == y with
    | true => rw [q] at e; cases e; exact ⟨_, rfl, r⟩
    | false => rw [q] at e; exact t.at e

/-- the context of a callee's body -/
noncomputable abbrev callC (C : Cx) (W0 : List Addr) (qual : Str) (scope : Scope) (L f : Addr) (cdv : Value) : Cx :=
  { C with A := C.A.deeper (envOfC qual scope L f cdv), env := envOfC qual scope L f cdv, X := frA (envOfC qual scope L f cdv) ++ C.X, W := frA (envOfC qual scope L f cdv) ++ W0 }

section
variable {C : Cx} {n : Nat} {I : Heap → Prop} {ρ : List (Str × AV)}
theorem enter {s : Shared} {f : Addr} {name qual : Str} {params : Arguments} {body : List Stmt} {scope : Scope} {dV kV doc pm cdv ct oc : Value} {an od : Option Addr} {osl : Array (Option Value)} {vs : List Value} {binds : List (Str × Value)}
    {R : Result → Shared → Prop} {I0 : Heap → Prop} {ρ0 : List (Str × AV)} {Post : Out → Prop} {W0 : List Addr}
    (P : Pre C (n + 1) I ρ s.heap)
    (ho : (HK C.w.params).lookup f = some ⟨oc, od, .func (fnX name qual params body scope [] dV kV doc pm an cdv ct), osl⟩) (hcd : codeIn (HK C.w.params) cdv qual = true)
    (hbind : bindArgs (fnX name qual params body scope [] dV kV doc pm an cdv ct) ⟨vs, []⟩ = pure binds)
    (hkind : (binds.all fun y => scope.names.lookup y.1 == some .local || scope.names.lookup y.1 == some .cell) = true) (hnd : (binds.map (·.1)).Nodup) (hcn : ((cellsFrom 0 scope.names []).map (·.1)).Nodup)
    (hco : scope.isCoroutine = false) (hgen : scope.isGenerator = false) (hk : scope.kind = .function)
    (hρ : RdB C.X s.heap binds ρ0) (hI : I0 s.heap) (hst : ∀ h h', Kp h h' → I0 h → I0 h') (hsf : ∀ L h h', L = s.heap.objs.size → KpIt (frA (envOfC qual scope L f cdv)) h h' → I0 h → I0 h') (hW : ∀ a ∈ W0, a ∈ C.X)
    (hb : ∀ L, L = s.heap.objs.size → JS (callC C W0 qual scope L f cdv) n I0 ρ0 body Post)
    (hret : ∀ I' d v s', Post (.ret I' d) → Ch W0 s s' → I' s'.heap → Rd C.X s'.heap v d → R (.ok (.ret v)) s')
    (hnone : ∀ I' ρ' s', Post (.next I' ρ') → Ch W0 s s' → I' s'.heap → R (.ok (.ret .none)) s') : codeAny (model PR C.w) C.A (.call (.ref f) ⟨vs, []⟩) R s := by
  have hroom : C.A.depth < recursionLimit := by have := P.ok.depth; show C.A.depth < 1000; omega
  have ho' := P.old _ _ (P.ok.K _ _ ho)
  refine codeAny_call_cells (fd := fnX name qual params body scope [] dV kV doc pm an cdv ct) (body := body) (binds := binds) hroom ho' rfl (P.ok.T.nolimit.keeps P.old) ((codeRec_of P.ok.K hcd).keeps P.old) rfl hbind rfl (kindsX hkind _) (fun s₁ x => ?_) hco hgen hk
  generalize hL : s.heap.objs.size = L at x
  have x' : InCallC s L (bindL (envOfC qual scope L f cdv).kindOf binds fun _ => none) (envOfC qual scope L f cdv).cells (bindC (envOfC qual scope L f cdv).kindOf binds fun _ => none) s₁ := x
  have hmiss : ∀ a ∈ frA (envOfC qual scope L f cdv), s.heap.get? a = none := by
    intro a ha
    cases q : s.heap.get? a with
    | none => rfl
    | some o =>
      have lt := Heap.lt_size q
      rw [hL] at lt
      rcases List.mem_cons.mp ha with e | ha
      · rw [e] at lt; exact absurd lt (Nat.lt_irrefl _)
      · obtain ⟨⟨y, c⟩, hm, e⟩ := List.mem_map.mp ha
        have := x'.above y c hm
        have e' : c = a := e
        rw [e'] at this
        exact absurd lt (Nat.lt_asymm this)
  obtain ⟨h₁, tk₁, e₁⟩ := x'.toInCall.same
  have kp : Kp s.heap s₁.heap := x'.toInCall.keep
  have re : ∀ {v d}, Rd C.X s.heap v d → Rd (frA (envOfC qual scope L f cdv) ++ C.X) s₁.heap v d := fun r => (r.re fun a ha => (List.mem_append.mp ha).elim (fun m => .inr (hmiss a m)) .inl).mono kp.but
  have P₁ : SP (callC C W0 qual scope L f cdv) n I0 ρ0 s₁.heap := by
    refine ⟨⟨⟨P.ok.K, P.ok.T, P.ok.hh, ?_, ?_, hk, rfl, rfl, ?_, ?_⟩, P.old.trans kp, ?_, hst _ _ kp hI, hst, ?_⟩, ⟨⟨_, x'.toInCall.ns⟩, fun a m => List.mem_append.mpr (.inl m), fun y c e => ⟨_, x'.cell y c e⟩, fun y z c e e' => name_of_addr x'.apart (lookup_mem e) (lookup_mem e')⟩, fun h h' k => hsf L h h' hL.symm k⟩
    · have := P.ok.depth; show C.A.depth + 1 + n ≤ 500; omega
    · have := P.ok.units; show C.A.units + 3 + 8 * n ≤ 5000; omega
    · intro a ha
      rcases List.mem_append.mp ha with m | m
      · cases q : C.H0.get? a with
        | none => rfl
        | some o => have := P.old a o q; rw [hmiss a m] at this; cases this
      · exact P.ok.low a m
    · intro a ha
      rcases List.mem_append.mp ha with m | m
      · exact List.mem_append.mpr (.inl m)
      · exact List.mem_append.mpr (.inr (hW a m))
    · intro a ha
      rcases List.mem_append.mp ha with m | m
      · rcases List.mem_cons.mp m with e | m
        · obtain ⟨o, _, _, q, _⟩ := x'.toInCall.ns
          exact ⟨o, e ▸ q⟩
        · obtain ⟨⟨y, c⟩, hm, e⟩ := List.mem_map.mp m
          have hc' : (envOfC qual scope L f cdv).cells.lookup y = some c := lookup_of_mem (cellsFrom_names scope.names 0 (L + 1) [] [] rfl ▸ hcn) hm
          obtain ⟨o, q, _⟩ := x'.cell y c hc'
          exact ⟨o, e ▸ q⟩
      · obtain ⟨o, e⟩ := P.ex a m; exact ⟨o, kp _ _ e⟩
    · intro y d e
      obtain ⟨v, hv, r⟩ := hρ.at e
      refine ⟨v, ?_, re r⟩
      have hk1 := List.all_eq_true.mp hkind (y, v) (lookup_mem hv)
      rcases Bool.or_eq_true_iff.mp hk1 with q | q
      · have q0 : scope.names.lookup y = some .local := by simpa using q
        have q' : (envOfC qual scope L f cdv).kindOf y = some .local := q0
        exact .loc q' x'.toInCall.ns (bindL_at q' hnd hv)
      · have q0 : scope.names.lookup y = some .cell := by simpa using q
        have q' : (envOfC qual scope L f cdv).kindOf y = some .cell := q0
        have hc := cellsFrom_some (x := y) scope.names (L + 1) [] (.inl q')
        obtain ⟨c, hc⟩ := Option.isSome_iff_exists.mp hc
        have z := x'.cell y c hc
        rw [bindC_at q' hnd hv] at z
        exact .cell q' hc z
  have back : ∀ s', Ch (frA (envOfC qual scope L f cdv) ++ W0) s₁ s' → Ch W0 s s' := by
    rintro s' ⟨h', tk', rfl, k⟩
    refine ⟨h', tk', by rw [e₁], fun b o nb e => k b o (fun m => ?_) (kp b o e)⟩
    rcases List.mem_append.mp m with m | m
    · rw [hmiss b m] at e; cases e
    · exact nb m
  refine wpAny_mono ((hb L hL.symm).run s₁ P₁ (fun fl s' => R (.ok (.ret (match fl with | .ret v => v | _ => .none))) s') (fun _ _ => False) (fun I' ρ' s' p k P' => hnone I' ρ' s' p (back s' k) P'.inv) fun I' ρ' d v s' p k P' r => ?_) (fun _ _ y => y) fun _ _ y => y.elim
  exact hret I' d v s' p (back s' k) P'.inv (r.re fun a m => .inl (List.mem_append.mpr (.inr m)))
/-- it returns d -/
noncomputable abbrev Ret (d : AV) : Out → Prop := fun o => match o with | .next _ _ => False | .ret _ e => e = d
/-- a def of one parameter that changes nothing -/
theorem calls_pure {f : Addr} {x : Str} {name qual : Str} {params : Arguments} {body : List Stmt} {scope : Scope} {dV kV doc pm cdv ct oc : Value} {an od : Option Addr} {osl : Array (Option Value)} {d e : AV}
    (ho : (HK C.w.params).lookup f = some ⟨oc, od, .func (fnX name qual params body scope [] dV kV doc pm an cdv ct), osl⟩) (hcd : codeIn (HK C.w.params) cdv qual = true)
    (hbind : ∀ v, bindArgs (fnX name qual params body scope [] dV kV doc pm an cdv ct) ⟨[v], []⟩ = pure [(x, v)])
    (hkind : scope.names.lookup x = some .local) (hcn : ((cellsFrom 0 scope.names []).map (·.1)).Nodup)
    (hco : scope.isCoroutine = false) (hgen : scope.isGenerator = false) (hk : scope.kind = .function)
    (hb : ∀ L, JS (callC C [] qual scope L f cdv) n (fun _ => True) [(x, d)] body (Ret e)) : CallsB C (n + 1) I ρ (.ref f) [d] e := by
  refine ⟨fun s vs Q E P r hQ => ?_⟩
  cases r with
  | cons a r =>
  cases r
  refine wpAny_call ?_
  refine enter (W0 := []) (I0 := fun _ => True) (ρ0 := [(x, d)]) (Post := Ret e) P ho hcd (hbind _) (by simp [hkind]) (by simp) hcn hco hgen hk (.cons a .nil) trivial (fun _ _ _ h => h) (fun _ _ _ _ _ h => h) (fun _ h => nomatch h) (fun L _ => hb L) ?_ ?_
  · rintro I' d v s' hd ⟨h, tk, rfl, k⟩ _ r
    have hd' : d = _ := hd
    subst hd'
    exact hQ v _ ⟨h, tk, rfl, fun b o e => k b o (fun m => nomatch m) e⟩ r
  · exact fun _ _ _ h => h.elim
end
end Mine
end -- J5

section -- J6
open PySem PySem.W PyProof.Rows PySem.Calls
set_option maxRecDepth 100000
namespace Mine

noncomputable def ownerNames : List String := ["enumerate", "zip", "dict_itemiterator", "dict_reverseitemiterator", "odict_iterator", "itertools.zip_longest", "itertools.pairwise"]

/-- a datum that is walked item by item -/
structure Itr (C : Cx) (n : Nat) (I : Heap → Prop) (ρ : List (Str × AV)) (d : AV) (ds : List AV) : Prop where
  run : ∀ s v Q E, Pre C n I ρ s.heap → Rd C.X s.heap v d →
    (∀ It s₂ fp (Pt : Nat → Value → Prop) (St : Nat → Heap → Prop), s.heap.get? It = none → Keeps s s₂ → Walks PR C.w C.A It fp [It] ds.length Pt St → St 0 s₂.heap →
      (∀ b ∈ fp, b = It ∨ (b ∉ C.W ∧ ∃ o, s.heap.get? b = some o)) → (∀ i u, Pt i u → ∃ e, ds[i]? = some e ∧ Rd C.X s.heap u e) →
      (∀ i h, St i h → ∃ o T, h.get? It = some o ∧ o.cls = .type T ∧ ownerNames.contains T = false ∧ iterNames.contains T = true) → Q (.ref It) s₂) → wpAny (model PR C.w) C.A (pyIter v) Q E s

section
variable {C : Cx} {n : Nat} {I : Heap → Prop} {ρ : List (Str × AV)}
theorem Itr_lst {ds : List AV} : Itr C n I ρ (.lst ds) ds := by
  refine ⟨fun s v Q E P r hQ => ?_⟩
  cases r with
  | lst na ea ra =>
    rename_i a vs m
    have hl : s.heap.IsList a vs.toArray := ⟨_, ea, rfl, _, rfl⟩
    have hne : a ≠ s.heap.objs.size := Nat.ne_of_lt (Heap.lt_size ea)
    refine wpAny_pyIter_list hl ?_
    have W := Walks.list (prog := PR) (w := C.w) P.ok.hh s.heap.objs.size a hne vs.toArray
    have hsz : vs.toArray.size = ds.length := by rw [List.size_toArray, ra.length]
    rw [hsz] at W
    refine hQ _ _ _ _ _ (none_size _) (keeps_h' s (Kp.push _)) W ⟨⟨_, Heap.get?_push_size _ rfl, rfl, rfl⟩, hl.push _⟩ ?_ ?_ ?_
    · intro b hb
      rcases List.mem_cons.mp hb with e | hb
      · exact .inl e
      · rw [List.mem_singleton.mp hb]; exact .inr ⟨fun m => na (P.ok.sub _ m), _, ea⟩
    · intro i u hu
      exact ra.get' (by simpa using hu)
    · rintro i h ⟨⟨o, e, c, _⟩, _⟩
      exact ⟨o, _, e, c, by decide, by decide⟩
theorem Itr_tup {ds : List AV} : Itr C n I ρ (.tup ds) ds := by
  refine ⟨fun s v Q E P r hQ => ?_⟩
  cases r with
  | tup na ea ra =>
    rename_i a vs m
    have hl : s.heap.IsTuple a vs.toArray := ⟨_, ea, rfl, _, rfl⟩
    have hne : a ≠ s.heap.objs.size := Nat.ne_of_lt (Heap.lt_size ea)
    refine wpAny_pyIter_tuple hl ?_
    have W := Walks.tuple (prog := PR) (w := C.w) P.ok.hh s.heap.objs.size a hne vs.toArray
    have hsz : vs.toArray.size = ds.length := by rw [List.size_toArray, ra.length]
    rw [hsz] at W
    refine hQ _ _ _ _ _ (none_size _) (keeps_h' s (Kp.push _)) W ⟨⟨_, Heap.get?_push_size _ rfl, rfl, rfl⟩, hl.push _⟩ ?_ ?_ ?_
    · intro b hb
      rcases List.mem_cons.mp hb with e | hb
      · exact .inl e
      · rw [List.mem_singleton.mp hb]; exact .inr ⟨fun m => na (P.ok.sub _ m), _, ea⟩
    · intro i u hu
      exact ra.get' (by simpa using hu)
    · rintro i h ⟨⟨o, e, c, _⟩, _⟩
      exact ⟨o, _, e, c, by decide, by decide⟩
noncomputable def rangeD (b : Nat) : List AV := (List.range b).map fun (i : Nat) => AV.int (i : Int)
theorem rangeD_get {b i : Nat} (h : i < b) : (rangeD b)[i]? = some (.int (i : Int)) := by simp [rangeD, h]
theorem rangeD_length (b : Nat) : (rangeD b).length = b := by simp [rangeD]
theorem Itr_rng {b : Nat} (hb : b < 1000000) : Itr C n I ρ (.rng b) (rangeD b) := by
  refine ⟨fun s v Q E P r hQ => ?_⟩
  cases r with
  | rng na ea =>
    rename_i a t u v
    have hr : IsRange s.heap a 0 (b : Int) 1 t u v := ea
    refine wpAny_pyIter_range hr (small_one (by omega) (by omega) (by omega) (by omega)) ?_
    have W := (Walks.range (prog := PR) (w := C.w) P.ok.hh s.heap.objs.size 0 1 b).bound
    have hsz : Builtin.Range.rangeSize 0 (b : Int) 1 = (b : Int) := by
      rw [rangeSize_one]; split <;> omega
    rw [← rangeD_length b] at W
    refine hQ _ _ _ _ _ (none_size _) (keeps_h' s (Kp.push _)) W ?_ ?_ ?_ ?_
    · show IsRangeIter _ _ _ _ _
      rw [rangeD_length, hsz]
      simpa using Heap.get?_push_size _ rfl
    · intro b hb
      exact .inl (List.mem_singleton.mp hb)
    · rintro i u ⟨hi, t, rfl⟩
      rw [rangeD_length] at hi
      have e : (0 : Int) + (i : Int) * 1 = (i : Int) := by omega
      rw [e]
      exact ⟨_, rangeD_get hi, .int _ _⟩
    · intro i h hh
      exact ⟨_, _, hh, rfl, by decide, by decide⟩

/-- the tests of a comprehension -/
structure JT (C : Cx) (n : Nat) (I : Heap → Prop) (ρ : List (Str × AV)) (ifs : List Expr) (b : Bool) : Prop where
  run : ∀ s, Pre C n I ρ s.heap → ∀ Q E, (∀ s', Keeps s s' → Q b s') →
    wpAny (model PR C.w) C.A (forIn ifs true fun c r => if r = true then do let ok ← isTrue c C.env (eval c C.env); pure (ForInStep.yield ok) else pure (ForInStep.yield r)) Q E s
theorem JT_nil : JT C n I ρ [] true := ⟨fun s _ Q E hQ => by rw [List.forIn_nil]; exact wpAny_pure (hQ s (keeps_refl s))⟩
theorem JT_one {e : Expr} {b : Bool} (h : JB C n I ρ e b) : JT C n I ρ [e] b := by
  refine ⟨fun s P Q E hQ => ?_⟩
  rw [List.forIn_cons]
  simp only [if_true]
  refine wpAny_bind (wpAny_bind (h.run s P _ _ fun s' k => wpAny_pure ?_))
  dsimp only
  rw [List.forIn_nil]
  exact wpAny_pure (hQ s' k)

/-- the cells that a comprehension takes along -/
noncomputable def closOf (sc : Scope) (env : Env) : List (Str × Addr) := sc.names.foldl (fun cs x => if x.2 == .free then (match env.cells.lookup x.1 with | some a => (x.1, a) :: cs | none => cs) else cs) []
/-- a name of the frame that a comprehension sees -/
noncomputable def Cap (env : Env) (sc : Scope) (cl : List (Str × Addr)) (y : Str) : Prop :=
  (env.kindOf y = some .cell ∨ env.kindOf y = some .free) ∧ ((relabel sc env).names.lookup y = some .cell ∨ (relabel sc env).names.lookup y = some .free) ∧ cl.lookup y = env.cells.lookup y ∧ (y == ("__classdict__" : Str)) = false

noncomputable abbrev inC (C : Cx) (sc : Scope) (cl : List (Str × Addr)) (c : Addr) (X' : List Addr) : Cx := { C with env := compEnvC sc cl c C.env, X := X', W := [] }

theorem cap_look {sc : Scope} {cl : List (Str × Addr)} {y : Str} {h h' : Heap} {v : Value} {c : Addr} (hc : Cap C.env sc cl y) (l : Look C.env h y v) (k : Kp h h') : Look (compEnvC sc cl c C.env) h' y v := by
  obtain ⟨k1, k2, k3, k4⟩ := hc
  have key : ∀ c', C.env.cells.lookup y = some c' → h.IsCell c' (some v) → Look (compEnvC sc cl c C.env) h' y v := by
    intro c' e1 e2
    rcases k2 with k2 | k2
    · exact .cell k2 (k3.trans e1) (Heap.IsCell.kp k e2)
    · exact .free k2 k4 (k3.trans e1) (Heap.IsCell.kp k e2)
  cases l with
  | loc a _ _ => rcases k1 with k1 | k1 <;> rw [k1] at a <;> cases a
  | cell _ b e => exact key _ b e
  | free _ _ b e => exact key _ b e

theorem filter_snoc {p : AV → Bool} {g : AV → AV} {ds : List AV} {i : Nat} {d : AV} (h : ds[i]? = some d) : ((ds.take (i + 1)).filter p).map g = ((ds.take i).filter p).map g ++ (if p d then [g d] else []) := by
  rw [List.take_add_one, h]
  simp only [Option.toList_some, List.filter_append, List.map_append]
  congr 1
  cases q : p d <;> simp [q]

set_option maxHeartbeats 1000000 in
theorem comp_core {elt iter : Expr} {x : Str} {px pos pos' : Pos} {ifs : List Expr} {sc : Scope} {cl : List (Str × Addr)} {di : AV} {ds : List AV} {p : AV → Bool} {g : AV → AV} {ρ' : List (Str × AV)} {use : Option (Value → Sem Unit)} {s : Shared} {Q : Value → Shared → Prop} {E : Value → Shared → Prop} {I2 : List Addr → Heap → Prop}
    (hI2 : ∀ h X', I h → (∀ a ∈ X', a ∈ C.X ∨ h.get? a = none) → I2 X' h) (st2 : ∀ X' h h', Kp h h' → I2 X' h → I2 X' h')
    (P : Pre C n I ρ s.heap) (hi : J C n I ρ iter di) (it : Itr C n I ρ di ds) (hz : ds.length ≤ 1000)
    (hclos : closureFor sc C.env = pure cl) (hcell : ∀ y ∈ sc.names, y.2 ≠ .cell) (hkind : sc.kind = .function) (hnames : ∀ y ∈ sc.names, y.2 = .local → sc.names.lookup y.1 = some .local) (hx : sc.names.lookup x = some .local)
    (hs : ∀ v, foldedSetIterable iter C.env v = pure v)
    (hcap : ∀ y d, ρ'.lookup y = some d → ρ.lookup y = some d ∧ Cap C.env sc cl y)
    (hbody : ∀ d ∈ ds, ∀ c X', JT (inC C sc cl c X') n (I2 X') ((x, d) :: ρ') ifs (p d) ∧ (p d = true → J (inC C sc cl c X') n (I2 X') ((x, d) :: ρ') elt (g d)))
    (hQ : ∀ D c m s', Keeps s s' → s.heap.get? D = none → s.heap.get? c = none → s'.heap.Ns c m → Rd (c :: C.X) s'.heap (.ref D) (.lst ((ds.filter p).map g)) → compPost (model PR C.w) C.A E use Q (.ref D) c (.ok .next) s') :
    wpAny (model PR C.w) C.A (comprehension (.ListComp elt [⟨.Name x px, iter, ifs, 0⟩] sc pos) sc C.env pos' (newList []) false (eval iter C.env) use) Q E s := by
  refine wpAny_comprehension_free rfl hs hclos hkind hnames (hi.run s P _ _ fun vi s₁ k₁ r₁ => ?_)
  have P₁ := P.keeps k₁
  refine it.run s₁ vi _ _ P₁ r₁ fun It s₂ fp Pt St hIt k₂ W hst hfp hPt hown => ?_
  -- the new list
  refine wpAny_newObj_type ?_
  refine wpAny_newFunctionEnv hcell (by intro y hy; simp at hy) (fun h₁ hns₁ hsb₁ => ?_) hkind
  dsimp only at hns₁ hsb₁ ⊢
  generalize hD : s₂.heap.objs.size = D at hns₁ hsb₁ ⊢
  generalize hH2 : s₂.heap.push { cls := .type "list", dict := none, data := .seq ([] : List Value).toArray } = H2 at hns₁ hsb₁ ⊢
  generalize hc : H2.objs.size = c at hns₁ hsb₁ ⊢
  have hcD : c = D + 1 := by rw [← hc, ← hH2, Heap.size_push, hD]
  have hDc : D ≠ c := by omega
  have kp₂ : Kp s₁.heap s₂.heap := keeps_kp k₂
  have missD₂ : s₂.heap.get? D = none := hD ▸ none_size _
  have missc₂ : s₂.heap.get? c = none := by
    cases q : s₂.heap.get? c with
    | none => rfl
    | some o => have := Heap.lt_size q; rw [hD, hcD] at this; exact absurd this (Nat.not_lt.mpr (Nat.le_succ _))
  have miss : ∀ {b}, s₂.heap.get? b = none → s₁.heap.get? b = none := fun {b} q => by
    cases q' : s₁.heap.get? b with
    | none => rfl
    | some o => have := kp₂ b o q'; rw [q] at this; cases this
  have missD := miss missD₂
  have missc := miss missc₂
  have hItD : It ≠ D := by
    intro q
    obtain ⟨o, T, e, _⟩ := hown 0 _ hst
    rw [q, missD₂] at e; cases e
  have hItc : It ≠ c := by
    intro q
    obtain ⟨o, T, e, _⟩ := hown 0 _ hst
    rw [q, missc₂] at e; cases e
  have old₂ : Kp s₂.heap h₁ := fun b o e => (hsb₁.2 b (fun q => by rw [q, missc₂] at e; cases e)).trans (Heap.get?_push_of_some _ (hH2 ▸ Heap.get?_push_of_some _ e))
  have hacc : h₁.PlainList D #[] := ⟨0, (hsb₁.2 D hDc).trans (Heap.get?_push_of_some _ (by rw [← hH2, ← hD]; exact Heap.get?_push_size _ rfl))⟩
  have fpne : ∀ b ∈ fp, b ≠ D ∧ b ≠ c := by
    intro b hb
    rcases hfp b hb with rfl | ⟨_, o, e⟩
    · exact ⟨hItD, hItc⟩
    · exact ⟨fun q => (by rw [q, missD] at e; cases e), fun q => (by rw [q, missc] at e; cases e)⟩
  have hst₁ : St 0 h₁ := W.frame _ _ _ hst fun b _ o e => old₂ b o e
  let X' := c :: D :: It :: C.X
  have X'miss : ∀ a ∈ X', a ∈ C.X ∨ s₁.heap.get? a = none := by
    intro a ha
    rcases List.mem_cons.mp ha with rfl | ha
    · exact .inr missc
    rcases List.mem_cons.mp ha with rfl | ha
    · exact .inr missD
    rcases List.mem_cons.mp ha with rfl | ha
    · exact .inr hIt
    exact .inl ha
  have okI : (inC C sc cl c X').Ok n := by
    refine ⟨P.ok.K, P.ok.T, P.ok.hh, P.ok.depth, P.ok.units, hkind, P.ok.glob, P.ok.blt, fun a ha => ?_, fun a ha => nomatch ha⟩
    rcases X'miss a ha with m | m
    · exact P.ok.low a m
    · cases q : C.H0.get? a with
      | none => rfl
      | some o => have := P₁.old a o q; rw [m] at this; cases this
  have loop : ∀ s₃ : Shared, s₃ = { s₂ with heap := h₁, toks := s₂.toks + ([] : List (Str × Value)).length } →
      codeAny (model PR C.w) C.A (.compLoop (.ListComp elt [⟨.Name x px, iter, ifs, 0⟩] sc pos) 0 (.ref It) (.ref D) (compEnvC sc cl c C.env)) (compPost (model PR C.w) C.A E use Q (.ref D) c) s₃ := by
    rintro s₃ rfl
    refine codeAny_compLoop_tests (fun k s' => ∃ h' tk i ys m', s' = { s₂ with heap := h', toks := tk } ∧ St i h' ∧ h'.PlainList D ys ∧ h'.Ns c m' ∧ RdAll X' h' ys.toList (((ds.take i).filter p).map g) ∧ i ≤ ds.length ∧ k = ds.length + 1 - i ∧ Kp s₁.heap h') ?_ (ds.length + 1)
      ⟨h₁, _, 0, #[], _, rfl, hst₁, hacc, hns₁, by simpa using RdAll.nil, Nat.zero_le _, rfl, kp₂.trans old₂⟩
    rintro k s' ⟨H, tk, i, ys, m', rfl, hst', hacc', hn', hR, hle, rfl, hk⟩
    by_cases hlt : i < ds.length
    · refine W.item i _ _ _ hlt hst' fun u hA tkA hPu hstA hkA => ?_
      obtain ⟨d, hd, rd⟩ := hPt i u hPu
      have hcw : c ∉ [It] := by simp [Ne.symm hItc]
      have hDw : D ∉ [It] := by simp [Ne.symm hItD]
      refine wpAny_assign_Name (wpAny_storeName_local (env := compEnvC sc cl c C.env) (lookup_relabel_local hx) (hn'.at' fun o e => hkA _ o hcw e) (fun hB hnB hsB => ?_) (by simp [compEnvC, relabel, hkind]))
      have kB : Kp s₁.heap hB := fun b o e => (hsB.2 b (fun q => by have q' : b = c := q; rw [q', missc] at e; cases e)).trans (hkA b o (fun m => by rw [List.mem_singleton.mp m, hIt] at e; cases e) (hk b o e))
      have accB : hB.PlainList D ys := by
        obtain ⟨q, e⟩ := hacc'
        exact ⟨q, (hsB.2 D hDc).trans (hkA D _ hDw e)⟩
      have stB : St (i + 1) hB := W.frame _ _ _ hstA fun b hb o e => (hsB.2 b (fpne b hb).2).trans e
      have kX : KpBut X' H hB := fun b o nb e => (hsB.2 b fun q => nb (by rw [show b = c from q]; exact .head _)).trans (hkA b o (fun m => nb (by rw [List.mem_singleton.mp m]; exact .tail _ (.tail _ (.head _)))) e)
      have hRB := hR.mono kX
      have preB : Pre (inC C sc cl c X') n (I2 X') ((x, d) :: ρ') hB := by
        refine ⟨okI, P₁.old.trans kB, ?_, st2 _ _ _ kB (hI2 _ _ P₁.inv X'miss), st2 X', ?_⟩
        · intro a ha
          rcases List.mem_cons.mp ha with rfl | ha
          · obtain ⟨o, _, _, e, _⟩ := hnB; exact ⟨o, e⟩
          rcases List.mem_cons.mp ha with rfl | ha
          · obtain ⟨q, e⟩ := accB; exact ⟨_, e⟩
          rcases List.mem_cons.mp ha with rfl | ha
          · obtain ⟨o, T, e, _⟩ := hown _ _ stB; exact ⟨o, e⟩
          obtain ⟨o, e⟩ := P₁.ex a ha; exact ⟨o, kB _ _ e⟩
        · intro y e he
          by_cases q : y = x
          · subst q
            rw [lookup_cons_eq] at he
            cases he
            exact ⟨u, .loc (lookup_relabel_local hx) hnB (by simp), (rd.re X'miss).mono kB.but⟩
          · rw [lookup_cons_ne q] at he
            obtain ⟨h1, h2⟩ := hcap y e he
            obtain ⟨v, l, r⟩ := P₁.vars y e h1
            exact ⟨v, cap_look h2 l kB, (r.re X'miss).mono kB.but⟩
      have hm : d ∈ ds := List.mem_of_getElem? hd
      obtain ⟨hT, hE⟩ := hbody d hm c X'
      refine hT.run _ preB _ _ fun s₅ k₅ => ?_
      obtain ⟨hC, tkC, rfl, kC⟩ := k₅
      have kC : Kp hB hC := kC
      have preC := preB.kp kC
      have snoc := filter_snoc (p := p) (g := g) hd
      cases hpd : p d with
      | false =>
        simp only [Bool.false_eq_true, if_false]
        refine ⟨ds.length + 1 - (i + 1), by omega, hC, tkC, i + 1, ys, _, rfl, W.frame _ _ _ stB fun b _ o e => kC b o e, ?_, hnB.keeps kC, ?_, hlt, rfl, kB.trans kC⟩
        · obtain ⟨q, e⟩ := accB; exact ⟨q, kC _ _ e⟩
        · rw [snoc, hpd]; simpa using hRB.mono (Kp.but kC)
      | true =>
        simp only [if_true]
        refine (hE hpd).run _ preC _ _ fun y s₆ k₆ ry => ?_
        obtain ⟨hF, tkF, rfl, kF⟩ := k₆
        have kF : Kp hC hF := kF
        have accF : hF.PlainList D ys := by obtain ⟨q, e⟩ := accB; exact ⟨q, kF _ _ (kC _ _ e)⟩
        have hys : ys.size ≤ sizeLine := by
          have e1 := hR.length
          rw [List.length_map, Array.length_toList] at e1
          have e2 : ((ds.take i).filter p).length ≤ (ds.take i).length := List.length_filter_le _ _
          have e3 : (ds.take i).length ≤ ds.length := List.length_take_le' ..
          have : (1000 : Nat) ≤ sizeLine := by decide
          omega
        refine wpAny_list_append_plain (hsz := hys) accF fun hG accG hsG => ?_
        have kG : KpBut X' hF hG := fun b o nb e => (hsG.2 b fun q => nb (by rw [show b = D from q]; exact .tail _ (.head _))).trans e
        refine ⟨ds.length + 1 - (i + 1), by omega, hG, tkF, i + 1, ys.push y, _, rfl, W.frame _ _ _ stB fun b hb o e => (hsG.2 b (fpne b hb).1).trans (kF _ _ (kC _ _ e)), accG, ((hnB.keeps kC).keeps kF).sameBut hsG (Ne.symm hDc), ?_, hlt, rfl, ?_⟩
        · rw [snoc, hpd, Array.toList_push]
          simp only [if_true]
          exact ((hRB.mono (Kp.but (kC.trans kF))).mono kG).append (.cons (ry.mono kG) .nil)
        · intro b o e
          exact (hsG.2 b (fun q => by rw [show b = D from q, missD] at e; cases e)).trans (kF _ _ (kC _ _ (kB _ _ e)))
    · have hin : i = ds.length := by omega
      subst hin
      refine W.done _ _ _ hst' fun hA tkA hkA => ?_
      have hcw : c ∉ [It] := by simp [Ne.symm hItc]
      have hDw : D ∉ [It] := by simp [Ne.symm hItD]
      rw [List.take_length] at hR
      have kX : KpBut X' H hA := fun b o nb e => hkA b o (fun m => nb (by rw [List.mem_singleton.mp m]; exact .tail _ (.tail _ (.head _)))) e
      have kA : Kp s₁.heap hA := fun b o e => hkA b o (fun m => by rw [List.mem_singleton.mp m, hIt] at e; cases e) (hk b o e)
      obtain ⟨q, e⟩ := hacc'
      obtain ⟨hq, tq, rfl, kq⟩ := k₁
      obtain ⟨hq₂, tq₂, rfl, kq₂⟩ := k₂
      have missD₀ : s.heap.get? D = none := by
        cases q' : s.heap.get? D with
        | none => rfl
        | some o => have := kq D o q'; rw [missD] at this; cases this
      have missc₀ : s.heap.get? c = none := by
        cases q' : s.heap.get? c with
        | none => rfl
        | some o => have := kq c o q'; rw [missc] at this; cases this
      refine hQ D c _ _ ⟨hA, tkA, rfl, fun b o e => kA b o (kq b o e)⟩ missD₀ missc₀ (hn'.at' fun o e => hkA _ o hcw e) (.lst (n := q) (vs := ys.toList) ?_ (by simpa using hkA D _ hDw e) ((hR.mono kX).re fun a ha => .inl ?_))
      · intro m
        rcases List.mem_cons.mp m with e | m
        · exact hDc e
        · exact P.fresh missD₀ m
      · rcases List.mem_cons.mp ha with rfl | m
        · exact .head _
        · exact .tail _ (.tail _ (.tail _ m))
  exact codeAny_compStart_list (loop _ rfl) (W.self 0 _ _ _ hst₁ (loop _ rfl))
end
end Mine
end -- J6

section -- J7
open PySem PySem.W PyProof.Rows PySem.Calls
set_option maxRecDepth 100000
namespace Mine
section
variable {C : Cx} {n : Nat} {I : Heap → Prop} {ρ : List (Str × AV)}

/-- an object that is no datum -/
noncomputable def NoDat (h : Heap) (c : Addr) : Prop := ∀ o, h.get? c = some o → (∀ vs n, o ≠ tupO vs n) ∧ (∀ vs n, o ≠ lstO vs n) ∧ ∀ b t u v, o ≠ rngO b t u v
theorem NoDat.ns {h : Heap} {c : Addr} {m : Str → Option Value} (hn : h.Ns c m) : NoDat h c := by
  intro o e
  obtain ⟨o', _, _, e', d, _⟩ := hn
  rw [e] at e'; cases e'
  exact ⟨fun vs n q => (by rw [q] at d; cases d), fun vs n q => (by rw [q] at d; cases d), fun _ _ _ _ q => (by rw [q] at d; cases d)⟩
theorem NoDat.it {h : Heap} {c : Addr} {o : Obj} (e : h.get? c = some o) (hi : isIter o = true) : NoDat h c := by
  intro o' e'
  rw [e] at e'; cases e'
  exact ⟨fun vs n q => (by rw [q] at hi; exact absurd hi Bool.false_ne_true), fun vs n q => (by rw [q] at hi; exact absurd hi Bool.false_ne_true), fun _ _ _ _ q => (by rw [q] at hi; exact absurd hi Bool.false_ne_true)⟩
mutual
theorem Rd.off {X : List Addr} {h : Heap} {c : Addr} (hn : NoDat h c) : ∀ {v : Value} {d : AV}, Rd X h v d → Rd (c :: X) h v d
  | _, _, .none => .none
  | _, _, .bool b => .bool b
  | _, _, .int i t => .int i t
  | _, _, .str x t => .str x t
  | _, _, .tok x t => .tok x t
  | _, _, .tup na e r => .tup (fun q => (List.mem_cons.mp q).elim (fun q => (hn _ (q ▸ e)).1 _ _ rfl) na) e (RdAll.off hn r)
  | _, _, .lst na e r => .lst (fun q => (List.mem_cons.mp q).elim (fun q => (hn _ (q ▸ e)).2.1 _ _ rfl) na) e (RdAll.off hn r)
  | _, _, .at a => .at a
  | _, _, .rng na e => .rng (fun q => (List.mem_cons.mp q).elim (fun q => (hn _ (q ▸ e)).2.2 _ _ _ _ rfl) na) e
theorem RdAll.off {X : List Addr} {h : Heap} {c : Addr} (hn : NoDat h c) : ∀ {vs : List Value} {ds : List AV}, RdAll X h vs ds → RdAll (c :: X) h vs ds
  | _, _, .nil => .nil
  | _, _, .cons a r => .cons (Rd.off hn a) (RdAll.off hn r)
end
theorem cellAt {h h' : Heap} {c : Addr} {v : Option Value} (x : h.IsCell c v) (k : ∀ o, h.get? c = some o → h'.get? c = some o) : h'.IsCell c v := let ⟨o, e, d⟩ := x; ⟨o, k o e, d⟩
/-- what is no datum and none of the frame's may change -/
theorem SP.but {h h' : Heap} {c : Addr} (P : SP C n I ρ h) (hn : NoDat h c) (hX : c ∉ C.X) (h0 : C.H0.get? c = Option.none) (hs : ∀ b o, b ≠ c → h.get? b = some o → h'.get? b = some o) (hI : I h') : SP C n I ρ h' := by
  have hW : c ∉ frA C.env := fun q => hX (P.ok.sub _ (P.fw.inW c q))
  have hL : C.env.locals ≠ c := fun q => hW (q ▸ .head _)
  have hC : ∀ y a, C.env.cells.lookup y = some a → a ≠ c := fun y a e q => hW (q ▸ .tail _ (List.mem_map.mpr ⟨(y, a), lookup_mem e, rfl⟩))
  have k' : KpBut (c :: C.X) h h' := fun b o nb e => hs b o (fun q => nb (q ▸ .head _)) e
  refine ⟨⟨P.ok, fun b o e => hs b o (fun q => by rw [q, h0] at e; cases e) (P.old b o e), fun a ha => ?_, hI, P.st, fun y d e => ?_⟩, ⟨?_, P.fw.inW, fun y a e => ?_, P.fw.inj⟩, P.sf⟩
  · obtain ⟨o, e⟩ := P.ex a ha
    exact ⟨o, hs a o (fun q => hX (q ▸ ha)) e⟩
  · obtain ⟨v, l, r⟩ := P.vars y d e
    refine ⟨v, ?_, ((r.off hn).mono k').re fun a m => .inl (.tail _ m)⟩
    cases l with
    | loc a b e => exact .loc a (b.at' fun o e => hs _ o hL e) e
    | cell a b e => exact .cell a b (cellAt e fun o e => hs _ o (hC _ _ b) e)
    | free a z b e => exact .free a z b (cellAt e fun o e => hs _ o (hC _ _ b) e)
  · obtain ⟨q, z⟩ := P.fw.ns; exact ⟨q, z.at' fun o e => hs _ o hL e⟩
  · obtain ⟨v, z⟩ := P.fw.cell y a e; exact ⟨v, cellAt z fun o e' => hs _ o (hC _ _ e) e'⟩

theorem J_comp2 {elt iter : Expr} {x : Str} {px pos : Pos} {ifs : List Expr} {sc : Scope} {di : AV} {ds : List AV} {p : AV → Bool} {g : AV → AV} {ρ' : List (Str × AV)} {I2 : List Addr → Heap → Prop}
    (hI2 : ∀ h X', I h → (∀ a ∈ X', a ∈ C.X ∨ h.get? a = none) → I2 X' h) (st2 : ∀ X' h h', Kp h h' → I2 X' h → I2 X' h')
    (hi : J C n I ρ iter di) (it : Itr C n I ρ di ds) (hz : ds.length ≤ 1000)
    (hcap : ∀ y d, ρ'.lookup y = some d → ρ.lookup y = some d ∧ Cap C.env sc (closOf sc C.env) y)
    (hbody : ∀ d ∈ ds, ∀ c X', JT (inC C sc (closOf sc C.env) c X') n (I2 X') ((x, d) :: ρ') ifs (p d) ∧ (p d = true → J (inC C sc (closOf sc C.env) c X') n (I2 X') ((x, d) :: ρ') elt (g d)))
    (hclos : closureFor sc C.env = pure (closOf sc C.env) := by rfl) (hcell : ∀ y ∈ sc.names, y.2 ≠ .cell := by decide) (hkind : sc.kind = .function := by rfl) (hnames : ∀ y ∈ sc.names, y.2 = .local → sc.names.lookup y.1 = some .local := by decide) (hx : sc.names.lookup x = some .local := by rfl)
    (hs : ∀ v, foldedSetIterable iter C.env v = pure v := by intro _; rfl) : J C n I ρ (.ListComp elt [⟨.Name x px, iter, ifs, 0⟩] sc pos) (.lst ((ds.filter p).map g)) := by
  refine ⟨fun s P Q E hQ => ?_⟩
  rw [eval_ListComp]
  refine comp_core (use := none) hI2 st2 P hi it hz hclos hcell hkind hnames hx hs hcap hbody fun D c m s' k hD hc hn r => ⟨m, hn, fun h' hs' => ?_⟩
  have k' : KpBut (c :: C.X) s'.heap h' := fun b o nb e => (hs'.2 b fun q => nb (q ▸ .head _)).trans e
  refine hQ _ _ ?_ ((r.mono k').re fun a m => .inl (.tail _ m))
  obtain ⟨h, tk, rfl, k⟩ := k
  exact ⟨h', tk, rfl, fun b o e => (hs'.2 b fun q => by rw [q, hc] at e; cases e).trans (k b o e)⟩

theorem J_comp {elt iter : Expr} {x : Str} {px pos : Pos} {ifs : List Expr} {sc : Scope} {di : AV} {ds : List AV} {p : AV → Bool} {g : AV → AV} {ρ' : List (Str × AV)}
    (hi : J C n I ρ iter di) (it : Itr C n I ρ di ds) (hz : ds.length ≤ 1000)
    (hcap : ∀ y d, ρ'.lookup y = some d → ρ.lookup y = some d ∧ Cap C.env sc (closOf sc C.env) y)
    (hbody : ∀ d ∈ ds, ∀ c X', JT (inC C sc (closOf sc C.env) c X') n I ((x, d) :: ρ') ifs (p d) ∧ (p d = true → J (inC C sc (closOf sc C.env) c X') n I ((x, d) :: ρ') elt (g d)))
    (hclos : closureFor sc C.env = pure (closOf sc C.env) := by rfl) (hcell : ∀ y ∈ sc.names, y.2 ≠ .cell := by decide) (hkind : sc.kind = .function := by rfl) (hnames : ∀ y ∈ sc.names, y.2 = .local → sc.names.lookup y.1 = some .local := by decide) (hx : sc.names.lookup x = some .local := by rfl)
    (hs : ∀ v, foldedSetIterable iter C.env v = pure v := by intro _; rfl) : J C n I ρ (.ListComp elt [⟨.Name x px, iter, ifs, 0⟩] sc pos) (.lst ((ds.filter p).map g)) := by
  refine ⟨fun s P Q E hQ => (J_comp2 (I2 := fun _ => I) (fun _ _ h _ => h) (fun _ => P.st) hi it hz hcap hbody hclos hcell hkind hnames hx hs).run s P Q E hQ⟩

theorem JS_assignC2 {elt iter : Expr} {x y : Str} {px py pos spos : Pos} {ifs : List Expr} {sc : Scope} {di : AV} {ds : List AV} {p : AV → Bool} {g : AV → AV} {ρ' : List (Str × AV)} {rest : List Stmt} {Post : Out → Prop} {I2 : List Addr → Heap → Prop}
    (hI2 : ∀ h X', I h → (∀ a ∈ X', a ∈ C.X ∨ h.get? a = none) → I2 X' h) (st2 : ∀ X' h h', Kp h h' → I2 X' h → I2 X' h')
    (hi : J C n I ρ iter di) (it : Itr C n I ρ di ds) (hz : ds.length ≤ 1000)
    (hcap : ∀ y d, ρ'.lookup y = some d → ρ.lookup y = some d ∧ Cap C.env sc (closOf sc C.env) y)
    (hbody : ∀ d ∈ ds, ∀ c X', JT (inC C sc (closOf sc C.env) c X') n (I2 X') ((x, d) :: ρ') ifs (p d) ∧ (p d = true → J (inC C sc (closOf sc C.env) c X') n (I2 X') ((x, d) :: ρ') elt (g d)))
    (hy : Own C y) (k : JS C n I ((y, .lst ((ds.filter p).map g)) :: ρ) rest Post)
    (hsw : swapsWith (.ListComp elt [⟨.Name x px, iter, ifs, 0⟩] sc pos) (some (.Name y py)) spos.line C.env = pure true := by rfl)
    (hclos : closureFor sc C.env = pure (closOf sc C.env) := by rfl) (hcell : ∀ y ∈ sc.names, y.2 ≠ .cell := by decide) (hkind : sc.kind = .function := by rfl) (hnames : ∀ y ∈ sc.names, y.2 = .local → sc.names.lookup y.1 = some .local := by decide) (hx : sc.names.lookup x = some .local := by rfl)
    (hs : ∀ v, foldedSetIterable iter C.env v = pure v := by intro _; rfl) : JS C n I ρ (.Assign [.Name y py] (.ListComp elt [⟨.Name x px, iter, ifs, 0⟩] sc pos) spos :: rest) Post := by
  refine ⟨fun s P Q E hN hR => ?_⟩
  refine wpAny_execs_cons ?_
  rw [exec_Assign_Name_used _ _ _ _ hsw]
  refine wpAny_bind (wpAny_standAt (wpAny_bind ?_))
  show wpAny _ C.A (do let _ ← comprehension (.ListComp elt [⟨.Name x px, iter, ifs, 0⟩] sc pos) sc C.env _ (newList []) false (eval iter C.env) (some (assign (.Name y py) C.env))) _ _ s
  refine wpAny_bind (wpAny_mono (Q := fun _ s' => Ch C.W s s' ∧ SP C n I ((y, .lst ((ds.filter p).map g)) :: ρ) s'.heap) ?_ (fun _ s' hq => wpAny_pure (wpAny_pure ?_)) fun _ _ e => e)
  · refine comp_core (use := some (assign (.Name y py) C.env)) hI2 st2 P.toPre hi it hz hclos hcell hkind hnames hx hs hcap hbody fun D c m s' k hD hc hn r => ?_
    show wpAny _ C.A (assign (.Name y py) C.env (.ref D)) _ _ s'
    have kp := keeps_kp k
    have P' : SP C n I ρ s'.heap := P.keeps k
    refine wpAny_assign_Name (store P' hy (r.re fun a m => .inl (.tail _ m)) fun s₂ k₂ P₂ => ?_)
    have hcW : c ∉ frA C.env := fun m => P.toPre.fresh hc (P.ok.sub _ (P.fw.inW _ m))
    obtain ⟨h₂, tk₂, rfl, kk⟩ := k₂
    have hn₂ : h₂.Ns c m := by
      obtain ⟨o, es, ep, e, r⟩ := hn
      exact ⟨o, es, ep, kk _ _ hcW e, r⟩
    refine ⟨m, hn₂, fun h₃ hs₃ => ?_⟩
    obtain ⟨h, tk, rfl, k⟩ := k
    have kF : KpBut (frA C.env) s.heap h₃ := fun b o nb e => (hs₃.2 b fun q => by rw [q, hc] at e; cases e).trans (kk b o nb (k b o e))
    refine ⟨⟨h₃, _, rfl, kF.mono P.fw.inW⟩, P₂.but (NoDat.ns hn₂) (P.toPre.fresh hc) ?_ (fun b o nb e => (hs₃.2 b nb).trans e) (P.sf _ _ kF.it P.inv)⟩
    cases q : C.H0.get? c with
    | none => rfl
    | some o => have := P.old c o q; rw [hc] at this; cases this
  · exact k.run s' hq.2 _ _ (fun I' ρ' s'' p c => hN I' ρ' s'' p (hq.1.trans c)) fun I' ρ' d v s'' p c => hR I' ρ' d v s'' p (hq.1.trans c)
theorem JS_assignC {elt iter : Expr} {x y : Str} {px py pos spos : Pos} {ifs : List Expr} {sc : Scope} {di : AV} {ds : List AV} {p : AV → Bool} {g : AV → AV} {ρ' : List (Str × AV)} {rest : List Stmt} {Post : Out → Prop}
    (hi : J C n I ρ iter di) (it : Itr C n I ρ di ds) (hz : ds.length ≤ 1000)
    (hcap : ∀ y d, ρ'.lookup y = some d → ρ.lookup y = some d ∧ Cap C.env sc (closOf sc C.env) y)
    (hbody : ∀ d ∈ ds, ∀ c X', JT (inC C sc (closOf sc C.env) c X') n I ((x, d) :: ρ') ifs (p d) ∧ (p d = true → J (inC C sc (closOf sc C.env) c X') n I ((x, d) :: ρ') elt (g d)))
    (hy : Own C y) (k : JS C n I ((y, .lst ((ds.filter p).map g)) :: ρ) rest Post)
    (hsw : swapsWith (.ListComp elt [⟨.Name x px, iter, ifs, 0⟩] sc pos) (some (.Name y py)) spos.line C.env = pure true := by rfl)
    (hclos : closureFor sc C.env = pure (closOf sc C.env) := by rfl) (hcell : ∀ y ∈ sc.names, y.2 ≠ .cell := by decide) (hkind : sc.kind = .function := by rfl) (hnames : ∀ y ∈ sc.names, y.2 = .local → sc.names.lookup y.1 = some .local := by decide) (hx : sc.names.lookup x = some .local := by rfl)
    (hs : ∀ v, foldedSetIterable iter C.env v = pure v := by intro _; rfl) : JS C n I ρ (.Assign [.Name y py] (.ListComp elt [⟨.Name x px, iter, ifs, 0⟩] sc pos) spos :: rest) Post := by
  refine ⟨fun s P Q E hN hR => (JS_assignC2 (I2 := fun _ => I) (fun _ _ h _ => h) (fun _ => P.st) hi it hz hcap hbody hy k hsw hclos hcell hkind hnames hx hs).run s P Q E hN hR⟩
end
end Mine
end -- J7

section -- J8
open PySem PySem.W PyProof.Rows PySem.Calls
set_option maxRecDepth 100000
namespace Mine
section
variable {C : Cx} {n : Nat} {I : Heap → Prop} {ρ : List (Str × AV)}

/-- an assignment of a datum to a target -/
structure JA (C : Cx) (n : Nat) (I : Heap → Prop) (ρ : List (Str × AV)) (t : Expr) (d : AV) (ρ' : List (Str × AV)) : Prop where
  run : ∀ s v, SP C n I ρ s.heap → Rd C.X s.heap v d → ∀ Q E, (∀ s', Ch (frA C.env) s s' → SP C n I ρ' s'.heap → Q () s') → wpAny (model PR C.w) C.A (assign t C.env v) Q E s
theorem JA_name {x : Str} {px : Pos} {d : AV} (hx : Own C x) : JA C n I ρ (.Name x px) d ((x, d) :: ρ) := ⟨fun s v P r Q E hQ => wpAny_assign_Name (store P hx r hQ)⟩

/-- several targets in order -/
structure JAs (C : Cx) (n : Nat) (I : Heap → Prop) (ρ : List (Str × AV)) (ts : List (Value → Sem Unit)) (ds : List AV) (ρ' : List (Str × AV)) : Prop where
  run : ∀ s vs, SP C n I ρ s.heap → RdAll C.X s.heap vs ds → ∀ Q E, (∀ s', Ch (frA C.env) s s' → SP C n I ρ' s'.heap → Q () s') → wpAny (model PR C.w) C.A (assignInOrder ts vs) Q E s
theorem JAs_nil : JAs C n I ρ [] [] ρ := ⟨fun s vs P r Q E hQ => assignInOrder_nil (hQ s (Ch.refl _ s) P)⟩
theorem Ch.rd {X Y : List Addr} {s s' : Shared} (h : Ch Y s s') (k : ∀ a ∈ Y, a ∈ X) : KpBut X s.heap s'.heap := by
  obtain ⟨h, t, rfl, q⟩ := h
  exact q.mono k
theorem Fw.inX {h : Heap} (P : SP C n I ρ h) : ∀ a ∈ frA C.env, a ∈ C.X := fun a m => P.ok.sub _ (P.fw.inW a m)
theorem JAs_cons {t : Expr} {ts : List (Value → Sem Unit)} {d : AV} {ds : List AV} {ρ₁ ρ' : List (Str × AV)} (h : JA C n I ρ t d ρ₁) (k : JAs C n I ρ₁ ts ds ρ') : JAs C n I ρ (assign t C.env :: ts) (d :: ds) ρ' := by
  refine ⟨fun s vs P r Q E hQ => ?_⟩
  cases r with
  | cons a r =>
    refine assignInOrder_cons (h.run s _ P a _ _ fun s₁ k₁ P₁ => k.run s₁ _ P₁ (r.mono (k₁.rd (Fw.inX P))) _ _ fun s₂ k₂ P₂ => hQ s₂ (k₁.trans k₂) P₂)
theorem Ch.ext {X : List Addr} {s : Shared} {h' : Heap} (k : Heap.ExtBut s.heap.objs.size s.heap h') : Keeps s { s with heap := h' } :=
  ⟨h', s.toks, rfl, fun b o e => k b o (Nat.ne_of_lt (Heap.lt_size e)) e⟩
theorem JA_tup {elts : List Expr} {k : Nat} {pos : Pos} {ds : List AV} {ρ' : List (Str × AV)} (h : JAs C n I ρ ((assignEach elts C.env).map (·.2)) ds ρ') (hl : (assignEach elts C.env).length = ds.length) (hst : (assignEach elts C.env).findIdx? (·.1) = none := by rfl) : JA C n I ρ (.Tuple elts k pos) (.tup ds) ρ' := by
  refine ⟨fun s v P r Q E hQ => ?_⟩
  cases r with
  | tup na ea ra =>
    rename_i a vs m
    refine wpAny_assign_Tuple P.ok.hh (items := vs.toArray) ⟨_, ea, rfl, _, rfl⟩ (by rw [hl, List.size_toArray, ra.length]) hst fun h' he => ?_
    have kp := Ch.ext (X := C.X) he
    have e : vs.toArray.toList = vs := by simp
    rw [e]
    exact h.run _ _ (P.keeps kp) (ra.mono (keeps_kp kp).but) _ _ fun s' k' P' => hQ s' ((Ch.of kp).trans k') P'

/-- a, b = e -/
theorem JS_assignT {elts : List Expr} {k : Nat} {tpos pos : Pos} {e : Expr} {rest : List Stmt} {d : AV} {ρ' : List (Str × AV)} {Post : Out → Prop} (h : J C n I ρ e d) (ha : JA C n I ρ (.Tuple elts k tpos) d ρ') (hr : JS C n I ρ' rest Post)
    (hs : swapsWithSole [.Tuple elts k tpos] e pos.line C.env = pure false := by rfl) (hw : swappedStores [.Tuple elts k tpos] e C.env = pure none := by rfl) : JS C n I ρ (.Assign [.Tuple elts k tpos] e pos :: rest) Post := by
  refine ⟨fun s P Q E hN hR => ?_⟩
  refine wpAny_execs_cons (Assign_Tuple (h.run s P.toPre _ _ fun v s₁ k₁ r₁ => ha.run s₁ v (P.keeps k₁) r₁ _ _ fun s₂ k₂ P₂ => ?_) hs hw)
  exact hr.run s₂ P₂ _ _ (fun I' ρ' s' p c => hN I' ρ' s' p ((Ch.of k₁).trans ((k₂.mono P.fw.inW).trans c))) fun I' ρ' d v s' p c => hR I' ρ' d v s' p ((Ch.of k₁).trans ((k₂.mono P.fw.inW).trans c))
/-- x += e of ints -/
theorem JS_augAdd {x : Str} {xp pos : Pos} {e : Expr} {rest : List Stmt} {a b : Int} {Post : Out → Prop} (hx : Own C x) (h0 : ρ.lookup x = some (.int a)) (h : J C n I ρ e (.int b)) (k : JS C n I ((x, .int (a + b)) :: ρ) rest Post) : JS C n I ρ (.AugAssign (.Name x xp) .Add e pos :: rest) Post := by
  refine ⟨fun s P Q E hN hR => ?_⟩
  refine wpAny_execs_cons (wpAny_AugAssign_Name ?_)
  obtain ⟨v, l, r⟩ := P.vars x _ h0
  have go : wpAny (model PR C.w) C.A (eval e C.env) (fun v' s₂ => wpAny (model PR C.w) C.A (inplaceOp .Add v v') (fun r s₃ => wpAny (model PR C.w) C.A (storeName C.env x r) (fun _ s' => wpAny (model PR C.w) C.A (execs rest C.env) Q E s') E s₃) E s₂) E s := by
    refine h.run s P.toPre _ _ fun v' s₂ k₂ r₂ => ?_
    cases r
    cases r₂
    refine iadd_int ?_
    have kt := keeps_trans k₂ (keeps_tk s₂ (s₂.toks + 1))
    refine store (P.keeps kt) hx (.int _ _) fun s₃ k₃ P₃ => ?_
    exact k.run s₃ P₃ _ _ (fun I' ρ' s' p c => hN I' ρ' s' p ((Ch.of kt).trans ((k₃.mono P.fw.inW).trans c))) fun I' ρ' d v s' p c => hR I' ρ' d v s' p ((Ch.of kt).trans ((k₃.mono P.fw.inW).trans c))
  cases l with
  | loc a b c => exact wpAny_loadName_local P.ok.kind a b c go
  | cell a b c => exact wpAny_loadName_cell P.ok.kind a b c go
  | free a z b c => exact wpAny_loadName_free P.ok.kind a b c go z

theorem letOwned {s : Shared} {It : Addr} {o : Obj} {T : String} {t : Expr} {u : Value} {Q : Unit → Shared → Prop} {E : Value → Shared → Prop} (e : s.heap.get? It = some o) (hc : o.cls = .type T) (hn : ownerNames.contains T = false) (h : Q () s) :
    wpAny (model PR C.w) C.A (letOwnedTupleGo t (.ref It) u) Q E s := by
  have hn' : ["enumerate", "zip", "dict_itemiterator", "dict_reverseitemiterator", "odict_iterator", "itertools.zip_longest", "itertools.pairwise"].contains T = false := hn
  have key : ∀ a, wpAny (model PR C.w) C.A (do
      let o ← load It
      match o.cls, o.data with
      | .type n, .fields vs =>
        if ["enumerate", "zip", "dict_itemiterator", "dict_reverseitemiterator", "odict_iterator", "itertools.zip_longest", "itertools.pairwise"].contains n && vs[0]? == some (rawInt a) then
          rule "for.unpacks-the-owned-tuple"
          updateField It 0 .none
      | _, _ => pure ()) Q E s := by
    intro a
    refine wpAny_bind (wpAny_load e ?_)
    rw [hc]
    cases o.data <;> first | exact wpAny_pure h | (simp only [hn', Bool.false_and, Bool.false_eq_true, if_false]; exact wpAny_pure h)
  cases t <;> first | exact wpAny_pure h | (cases u <;> first | exact wpAny_pure h | exact key _)
/-- for -/
theorem JS_for {target iter : Expr} {body rest : List Stmt} {pos : Pos} {di : AV} {ds : List AV} {Post : Out → Prop} (hi : J C n I ρ iter di) (it : Itr C n I ρ di ds)
    (Inv : Nat → (Heap → Prop) → List (Str × AV) → Prop) (h0 : Inv 0 I ρ)
    (turn : ∀ i d I' ρ', ds[i]? = some d → Inv i I' ρ' → ∃ ρ₁, JA C n I' ρ' target d ρ₁ ∧ JS C n I' ρ₁ body (fun o => match o with | .next I'' ρ'' => Inv (i + 1) I'' ρ'' | .ret I'' e => Post (.ret I'' e)))
    (after : ∀ I' ρ', Inv ds.length I' ρ' → JS C n I' ρ' rest Post)
    (hs : ∀ v, foldedSetIterable iter C.env v = pure v := by intro _; rfl) : JS C n I ρ (.For target iter body [] pos :: rest) Post := by
  refine ⟨fun s P Q E hN hR => ?_⟩
  refine wpAny_execs_cons (wpAny_For (hi.run s P.toPre _ _ fun vi s₁ k₁ r₁ => ?_) hs)
  have P₁ := P.keeps k₁
  refine it.run s₁ vi _ _ P₁.toPre r₁ fun It s₂ fp Pt St hIt k₂ W hst hfp hPt hown => ?_
  have kp₂ := keeps_kp k₂
  have hItX : It ∉ C.X := P₁.toPre.fresh hIt
  have hItW : It ∉ C.W := fun m => hItX (P.ok.sub _ m)
  have hIt0 : C.H0.get? It = none := by
    cases q : C.H0.get? It with
    | none => rfl
    | some o => have := P₁.old It o q; rw [hIt] at this; cases this
  refine codeAny_forLoop_any (fun k s' => ∃ h' tk i I' ρ', s' = { s₂ with heap := h', toks := tk } ∧ St i h' ∧ i ≤ ds.length ∧ k = ds.length + 1 - i ∧ Inv i I' ρ' ∧ SP C n I' ρ' h' ∧ KpBut C.W s₁.heap h') ?_ (ds.length + 1)
    ⟨s₂.heap, s₂.toks, 0, I, ρ, rfl, hst, Nat.zero_le _, rfl, h0, P₁.keeps k₂, kp₂.but⟩
  rintro k s' ⟨H, tk, i, I', ρ', rfl, hst', hle, rfl, hinv, P', hk⟩
  obtain ⟨hq₁, tq₁, rfl, kq₁⟩ := k₁
  obtain ⟨hq₂, tq₂, rfl, kq₂⟩ := k₂
  -- what the iterator's step changes is the iterator alone
  obtain ⟨oI, TI, eI, cI, nI, yI⟩ := hown _ _ hst'
  have isI : isIter oI = true := by unfold isIter; rw [cI]; exact yI
  have noI := NoDat.it eI isI
  have step : ∀ {hA : Heap}, (∀ b o, b ∉ [It] → H.get? b = some o → hA.get? b = some o) → SP C n I' ρ' hA := by
    intro hA hkA
    have k1 : ∀ b o, b ≠ It → H.get? b = some o → hA.get? b = some o := fun b o nb e => hkA b o (by simpa using nb) e
    refine P'.but noI hItX hIt0 k1 (P'.sf _ _ (fun b o _ hi e => k1 b o (fun q => ?_) e) P'.inv)
    rw [q, eI] at e
    cases e
    rw [isI] at hi; cases hi
  by_cases hlt : i < ds.length
  · refine W.item i _ _ _ hlt hst' fun u hA tkA hPu hstA hkA => ?_
    obtain ⟨d, hd, rd⟩ := hPt i u hPu
    have PA := step hkA
    obtain ⟨ρ₁, hA1, hB1⟩ := turn i d I' ρ' hd hinv
    obtain ⟨oA, TA, eA, cA, nA, _⟩ := hown _ _ hstA
    have rdA : Rd C.X hA u d := by
      have r1 : Rd C.X H u d := rd.mono (hk.mono P.ok.sub)
      exact ((r1.off noI).mono fun b o nb e => hkA b o (fun m => nb (by rw [List.mem_singleton.mp m]; exact .head _)) e).re fun a m => .inl (.tail _ m)
    have hkW : KpBut C.W hq₁ hA := fun b o nb e => hkA b o (fun m => by rw [List.mem_singleton.mp m] at e; have := hIt; rw [e] at this; cases this) (hk b o nb e)
    refine letOwned eA cA nA ?_
    refine hA1.run _ u PA rdA _ _ fun s₄ k₄ P₄ => ?_
    obtain ⟨hB, tkB, rfl, kB⟩ := k₄
    have kB : KpBut (frA C.env) hA hB := kB
    refine hB1.run _ P₄ _ _ (fun I'' ρ'' s₅ hi k₅ P₅ => ?_) fun I'' ρ'' e v s₅ hp k₅ P₅ r₅ => ?_
    · obtain ⟨hE, tkE, rfl, kE⟩ := k₅
      have kE : KpBut C.W hB hE := kE
      refine ⟨ds.length + 1 - (i + 1), by omega, hE, tkE, i + 1, I'', ρ'', rfl, ?_, hlt, rfl, hi, P₅, (hkW.trans (kB.mono P.fw.inW)).trans kE⟩
      refine W.frame _ _ _ hstA fun b hb o e => ?_
      have nb : b ∉ C.W := by
        rcases hfp b hb with q | ⟨q, _⟩
        · exact q ▸ hItW
        · exact q
      exact kE b o nb (kB b o (fun m => nb (P.fw.inW _ m)) e)
    · obtain ⟨hE, tkE, rfl, kE⟩ := k₅
      have kE : KpBut C.W hB hE := kE
      exact hR I'' ρ'' e v _ hp ⟨hE, tkE, rfl, fun b o nb e => kE b o nb (kB b o (fun m => nb (P.fw.inW _ m)) (hkW b o nb (kq₁ b o e)))⟩ P₅ r₅
  · have hin : i = ds.length := by omega
    subst hin
    refine W.done _ _ _ hst' fun hA tkA hkA => ?_
    have PA := step hkA
    refine wpAny_execs_nil ?_
    refine (after I' ρ' hinv).run _ PA _ _ (fun I'' ρ'' s₅ hp k₅ P₅ => ?_) fun I'' ρ'' e v s₅ hp k₅ P₅ r₅ => ?_
    · obtain ⟨hE, tkE, rfl, kE⟩ := k₅
      have kE : KpBut C.W hA hE := kE
      exact hN I'' ρ'' _ hp ⟨hE, tkE, rfl, fun b o nb e => kE b o nb (hkA b o (fun m => by rw [List.mem_singleton.mp m] at e; have := kq₁ _ _ e; have h2 := hIt; rw [this] at h2; cases h2) (hk b o nb (kq₁ b o e)))⟩ P₅
    · obtain ⟨hE, tkE, rfl, kE⟩ := k₅
      have kE : KpBut C.W hA hE := kE
      exact hR I'' ρ'' e v _ hp ⟨hE, tkE, rfl, fun b o nb e => kE b o nb (hkA b o (fun m => by rw [List.mem_singleton.mp m] at e; have := kq₁ _ _ e; have h2 := hIt; rw [this] at h2; cases h2) (hk b o nb (kq₁ b o e)))⟩ P₅ r₅
end
end Mine
end -- J8

section -- J9
open PySem PySem.W PyProof.Rows PySem.Calls
set_option maxRecDepth 100000
namespace Mine
section
variable {C : Cx} {n : Nat} {I : Heap → Prop} {ρ : List (Str × AV)}

theorem J_range {fp pos : Pos} {e : Expr} {b : Int} (h : J C n I ρ e (.int b))
    (hk : C.env.kindOf "range" = some .globalImplicit := by rfl)
    (h2 : W.isStarred e = false := by rfl) : J C n I ρ (.Call (.Name "range" fp) [e] [] pos) (.rng b) := by
  refine ⟨fun s P Q E hQ => ?_⟩
  refine Call_ (ev_builtin P hk (no_range _) bt_range (by decide) (by decide) ?_) call_name
  refine PyProof.Rows.callWith_type1 ((JL_cons h JL_nil h2).run pos s P _ _ fun vs s₁ k₁ r₁ => ?_) (star_cons h2) rfl
  cases r₁ with
  | cons a r =>
  cases r
  cases a
  refine call_range_1 ?_
  refine hQ _ _ (keeps_trans k₁ ⟨_, _, rfl, fun _ _ e => Heap.get?_push_of_some _ e⟩) (.rng ((P.keeps k₁).fresh (none_size _)) (Heap.get?_push_size _ rfl))

theorem fitsI {k : Int} (h1 : -9223372036854775808 < k) (h2 : k < 9223372036854775808) : fitsSsize k = true := fitsSsize_of (N := 9223372036854775808) (by omega) (by omega) (Int.le_refl _)
/-- a sign of a text -/
theorem J_itemS {v i : Expr} {pos : Pos} {x : Str} {k : Int} (hv : J C n I ρ v (.str x)) (hi : J C n I ρ i (.int k)) (h0 : 0 ≤ k) (hk : k < x.length) (hz : (x.length : Int) < 4611686018427387904)
    (hs : ∀ t u, subscripted i false (.str x t) (.int k u) = operate [.str x t, .int k u] (getItem (.str x t) (.int k u)) := by intro _ _; rfl)
    (ht : ∀ t r, letTemporaryGo v (.str x t) r = pure () := by intro _ _; rfl) : J C n I ρ (.Subscript v i pos) (.str (Txt.item x k)) := by
  refine ⟨fun s P Q E hQ => ?_⟩
  refine Subscript_ (hv.run s P _ _ fun a s₁ k₁ r₁ => hi.run s₁ (P.keeps k₁) _ _ fun b s₂ k₂ r₂ => ?_)
  cases r₁
  cases r₂
  have hf : fitsSsize k = true := fitsI (by omega) (by omega)
  exact item_str hf (by omega) hk (fun _ => hQ _ _ (keeps_trans (keeps_trans k₁ k₂) (keeps_tk s₂ _)) (.str _ _)) (hs _ _) (ht _)

/-- a method of a text -/
structure CallsM (C : Cx) (n : Nat) (I : Heap → Prop) (ρ : List (Str × AV)) (id : String) (x : Str) (ds : List AV) (d : AV) : Prop where
  run : ∀ s t vs Q E, Pre C n I ρ s.heap → RdAll C.X s.heap vs ds → (∀ v s', Keeps s s' → Rd C.X s'.heap v d → Q v s') → wpAny (model PR C.w) C.A (call (.builtin id) (.str x t :: vs)) Q E s
/-- it is found -/
structure MethS (C : Cx) (m : Str) (id : String) : Prop where
  -- the conjunction keeps the kernel from evaluating the field's body when it looks for recursive arguments
  both : (∀ (s : Shared) (x : Str) (t : Tok) (pl : Sem Bool) (Q : Value × List Value → Shared → Prop) (E : Value → Shared → Prop), Q (.builtin id, [.str x t]) s → wpAny (model PR C.w) C.A (getMethod (.str x t) m pl) Q E s) ∧ True
theorem MethS.run {C : Cx} {m : Str} {id : String} (h : MethS C m id) (s : Shared) (x : Str) (t : Tok) (pl : Sem Bool) (Q : Value × List Value → Shared → Prop) (E : Value → Shared → Prop) (k : Q (.builtin id, [.str x t]) s) : wpAny (model PR C.w) C.A (getMethod (.str x t) m pl) Q E s := h.both.1 s x t pl Q E k
theorem ev_meth {env : Env} {o : Expr} {m : Str} {ap pos : Pos} {args : List Expr} {kws : List Keyword} {M : Model} {A : Around} {s : Shared} {Q : Value → Shared → Prop} {E : Value → Shared → Prop}
    (h : wpAny M A (eval o env) (fun ov s₁ => wpAny M A (getMethod ov m (do return (← importBound o env).getD true)) (fun fx s₂ => wpAny M A (callWith pos fx.1 fx.2 (backTo pos (starEach args env)) (backToKw pos (keywordEach kws env))) Q E s₂) E s₁) E s)
    (hb : attributeBase o m env (eval o env) = eval o env) (hf : methodCallForm (args.length + kws.length) (backTo pos (starEach args env)) (backToKw pos (keywordEach kws env)) = true) (hl : (ap.endLine == pos.line) = true) :
    wpAny M A (eval (.Call (.Attribute o m ap) args kws pos) env) Q E s := by
  rw [arm_eval_Call, hb]
  refine wpAny_bind (wpAny_mono h (fun ov s₁ h₁ => wpAny_bind (wpAny_standAt ?_)) fun _ _ e => e)
  unfold methodCall
  rw [hf]
  unfold calleeOf methodCallPos
  rw [if_pos rfl, hl]
  refine wpAny_bind (wpAny_holding (wpAny_mono h₁ (fun fx s₂ h₂ => ?_) fun _ _ e => e))
  simp only [Bool.not_true, Bool.or_true, if_true]
  exact wpAny_bind (wpAny_pure h₂)
theorem all_of_any {l : List (Bool × Sem Value)} (h : (l.any fun x => x.1) = false) : l.all (fun x => !x.1) = true := by
  rw [List.all_eq_true]
  intro x hx
  have := List.any_eq_false.mp h x hx
  simpa using this
theorem form0 {env : Env} {pos : Pos} {args : List Expr} (h : args.any W.isStarred = false) (hn : args.length < 20) : methodCallForm (args.length + 0) (backTo pos (starEach args env)) (backToKw pos (keywordEach [] env)) = true := by
  unfold methodCallForm
  rw [all_of_any (back_star h)]
  have : decide (args.length + 0 + 0 < 30) = true := decide_eq_true (by omega)
  simpa [backToKw, keywordEach] using by omega
/-- an expression that no super() stands in -/
noncomputable def plainBase : Expr → Bool
  | .Call (.Name ..) [] [] _ => false
  | _ => true
theorem base_of {o : Expr} {m : Str} {env : Env} {w : Sem Value} (h : plainBase o = true) : attributeBase o m env w = w := by
  unfold attributeBase
  split
  · cases h
  · rfl
theorem J_meth0 {o : Expr} {m : Str} {id : String} {ap pos : Pos} {x : Str} {d : AV} (ho : J C n I ρ o (.str x)) (hm : MethS C m id) (hc : CallsM C n I ρ id x [] d)
    (hb : plainBase o = true := by rfl) (hl : (ap.endLine == pos.line) = true := by rfl) : J C n I ρ (.Call (.Attribute o m ap) [] [] pos) d := by
  refine ⟨fun s P Q E hQ => ?_⟩
  refine ev_meth (ho.run s P _ _ fun v s₁ k₁ r₁ => ?_) (base_of hb) (form0 (args := []) rfl (by decide)) hl
  cases r₁
  refine hm.run _ _ _ _ _ _ (callWith_method0 ?_)
  exact hc.run s₁ _ [] _ _ (P.keeps k₁) .nil fun v s₂ k₂ r₂ => hQ v s₂ (keeps_trans k₁ k₂) r₂
theorem J_meth1 {o : Expr} {m : Str} {id : String} {ap pos : Pos} {x : Str} {d : AV} {e : Expr} {rest : List Expr} {ds : List AV} (ho : J C n I ρ o (.str x)) (ha : JL C n I ρ (e :: rest) ds) (hm : MethS C m id) (hc : CallsM C n I ρ id x ds d)
    (hb : plainBase o = true := by rfl) (hl : (ap.endLine == pos.line) = true := by rfl) (h2 : W.isStarred e = false := by rfl) (h3 : rest.any W.isStarred = false := by rfl) (h4 : (e :: rest).length < 20 := by decide) : J C n I ρ (.Call (.Attribute o m ap) (e :: rest) [] pos) d := by
  refine ⟨fun s P Q E hQ => ?_⟩
  refine ev_meth (ho.run s P _ _ fun v s₁ k₁ r₁ => ?_) (base_of hb) (form0 (args := e :: rest) (by rw [List.any_cons, h2, h3]; rfl) h4) hl
  cases r₁
  refine hm.run _ _ _ _ _ _ (callWith_method1 (ha.run pos s₁ (P.keeps k₁) _ _ fun vs s₂ k₂ r₂ => ?_) (star_cons h2) (back_star h3))
  exact hc.run s₂ _ vs _ _ (P.keeps (keeps_trans k₁ k₂)) r₂ fun v s₃ k₃ r₃ => hQ v s₃ (keeps_trans k₁ (keeps_trans k₂ k₃)) r₃
theorem m_lower : MethS C "lower" "str.lower" := ⟨fun s x t pl Q E h => by with_reducible exact GM.lower h, trivial⟩
theorem m_upper : MethS C "upper" "str.upper" := ⟨fun s x t pl Q E h => by with_reducible exact GM.upper h, trivial⟩
theorem m_index : MethS C "index" "str.index" := ⟨fun s x t pl Q E h => by with_reducible exact GM.index h, trivial⟩
theorem c_lower {x : Str} (hx : x.length ≤ 5592405) : CallsM C n I ρ "str.lower" x [] (.str (Txt.lower x)) := by
  refine ⟨fun s t vs Q E P r hQ => ?_⟩
  cases r
  exact SCL.lower hx fun _ => hQ _ _ (keeps_tk s _) (.str _ _)
theorem c_upper {x : Str} (hx : Builtin.Str.tooLong (Txt.upper x).length = false) : CallsM C n I ρ "str.upper" x [] (.str (Txt.upper x)) := by
  refine ⟨fun s t vs Q E P r hQ => ?_⟩
  cases r
  exact SC.upper hx (hQ _ _ (keeps_tk s _) (.str _ _))
theorem c_index {x y : Str} {i : Nat} {rest : List Nat} (h : Builtin.Str.occurrences x y 0 x.length 1 = i :: rest) : CallsM C n I ρ "str.index" x [.str y] (.int i) := by
  refine ⟨fun s t vs Q E P r hQ => ?_⟩
  cases r with
  | cons a r =>
  cases r
  cases a
  exact SC.index h (hQ _ _ (keeps_tk s _) (.int _ _))
theorem J_lower {o : Expr} {ap pos : Pos} {x : Str} (ho : J C n I ρ o (.str x)) (hx : x.length ≤ 5592405) (hb : plainBase o = true := by rfl) (hl : (ap.endLine == pos.line) = true := by rfl) :
    J C n I ρ (.Call (.Attribute o "lower" ap) [] [] pos) (.str (Txt.lower x)) := J_meth0 ho m_lower (c_lower hx) hb hl

theorem JB_orW {w : Sem Value} {l r : Expr} {pos : Pos} {a b : Bool} (hl : JB C n I ρ l a) (hr : a = false → JB C n I ρ r b) {s : Shared} (P : Pre C n I ρ s.heap) {Q : Bool → Shared → Prop} {E : Value → Shared → Prop} (hQ : ∀ s', Keeps s s' → Q (a || b) s') : wpAny (model PR C.w) C.A (isTrue (.BoolOp .Or [l, r] pos) C.env w) Q E s := by
  refine isTrue_or (hl.run s P _ _ fun s₁ k₁ => ?_)
  cases a with
  | true => rw [if_pos rfl]; exact hQ s₁ k₁
  | false =>
    rw [if_neg Bool.false_ne_true]
    refine isTrue_or ((hr rfl).run s₁ (P.keeps k₁) _ _ fun s₂ k₂ => ?_)
    cases b with
    | true => rw [if_pos rfl]; exact hQ s₂ (keeps_trans k₁ k₂)
    | false => rw [if_neg Bool.false_ne_true]; exact isTrue_or_nil (hQ s₂ (keeps_trans k₁ k₂))
theorem JB_or {l r : Expr} {pos : Pos} {a b : Bool} (hl : JB C n I ρ l a) (hr : a = false → JB C n I ρ r b) : JB C n I ρ (.BoolOp .Or [l, r] pos) (a || b) := ⟨fun s P Q E hQ => JB_orW hl hr P hQ⟩
theorem JB_or3 {l m r : Expr} {pos : Pos} {a b c : Bool} (hl : JB C n I ρ l a) (hm : JB C n I ρ m b) (hr : JB C n I ρ r c) : JB C n I ρ (.BoolOp .Or [l, m, r] pos) (a || (b || c)) := by
  refine ⟨fun s P Q E hQ => ?_⟩
  refine isTrue_or (hl.run s P _ _ fun s₁ k₁ => ?_)
  cases a with
  | true => rw [if_pos rfl]; exact hQ s₁ k₁
  | false => rw [if_neg Bool.false_ne_true]; exact JB_orW hm (fun _ => hr) (P.keeps k₁) fun s₂ k₂ => hQ s₂ (keeps_trans k₁ k₂)
theorem JB_not {e : Expr} {pos : Pos} {a : Bool} (h : JB C n I ρ e a) : JB C n I ρ (.UnaryOp .Not e pos) !a := ⟨fun s P Q E hQ => isTrue_not (h.run s P _ _ hQ)⟩

mutual
/-- as Python data -/
noncomputable def AV.py : AV → PyData
  | .none => .none
  | .bool b => .bool b
  | .int i => .int i
  | .str x => .str x
  | .tup l => .tuple (AV.pys l)
  | .lst l => .list (AV.pys l)
  | .at _ => .none
  | .rng _ => .none
  | .tok _ _ => .none
noncomputable def AV.pys : List AV → List PyData
  | [] => []
  | d :: l => d.py :: AV.pys l
end
mutual
/-- no objects in it -/
noncomputable def AV.flat : AV → Bool
  | .tup l => AV.flats l
  | .lst l => AV.flats l
  | .at _ => false
  | .rng _ => false
  | .tok _ _ => false
  | _ => true
noncomputable def AV.flats : List AV → Bool
  | [] => true
  | d :: l => d.flat && AV.flats l
end
mutual
theorem Rd.reads {X : List Addr} {h : Heap} : ∀ {v : Value} {d : AV}, Rd X h v d → d.flat = true → ∃ as, Reads h v d.py as
  | _, _, .none, _ => ⟨_, by unfold AV.py; exact Reads.none⟩
  | _, _, .bool b, _ => ⟨_, by unfold AV.py; exact Reads.bool b⟩
  | _, _, .int i t, _ => ⟨_, by unfold AV.py; exact Reads.int i t⟩
  | _, _, .str x t, _ => ⟨_, by unfold AV.py; exact Reads.str x t⟩
  | _, _, .tup na e r, hf => by
    unfold AV.flat at hf
    obtain ⟨as, q⟩ := RdAll.reads r hf
    exact ⟨_, by unfold AV.py; exact reads_tuple_at e rfl rfl (by simpa using q)⟩
  | _, _, .lst na e r, hf => by
    unfold AV.flat at hf
    obtain ⟨as, q⟩ := RdAll.reads r hf
    exact ⟨_, by unfold AV.py; exact reads_list_at e rfl rfl (by simpa using q)⟩
  | _, _, .at a, hf => by unfold AV.flat at hf; cases hf
  | _, _, .tok a b, hf => by unfold AV.flat at hf; cases hf
  | _, _, .rng _ _, hf => by unfold AV.flat at hf; cases hf
theorem RdAll.reads {X : List Addr} {h : Heap} : ∀ {vs : List Value} {ds : List AV}, RdAll X h vs ds → AV.flats ds = true → ∃ as, ReadsAll h vs (AV.pys ds) as
  | _, _, .nil, _ => ⟨_, ReadsAll.nil⟩
  | _, _, .cons a r, hf => by
    unfold AV.flats at hf
    obtain ⟨h1, h2⟩ := Bool.and_eq_true_iff.mp hf
    obtain ⟨as, q⟩ := Rd.reads a h1
    obtain ⟨bs, p⟩ := RdAll.reads r h2
    exact ⟨_, by unfold AV.pys; exact ReadsAll.cons q p⟩
end
/-- two data compared -/
theorem cmp_eq {a b : AV} (ha : a.flat = true) (hb : b.flat = true) (sa : SeqAt.shaped a.py = true) (sb : SeqAt.shaped b.py = true) :
    ∀ s x y Q E, Pre C n I ρ s.heap → Rd C.X s.heap x a → Rd C.X s.heap y b → (∀ v s', Keeps s s' → Rd C.X s'.heap v (.bool (PyData.eqv a.py b.py)) → Q v s') → wpAny (model PR C.w) C.A (compareOp .Eq x y) Q E s := by
  intro s x y Q E P ra rb hQ
  obtain ⟨as, q⟩ := ra.reads ha
  obtain ⟨bs, p⟩ := rb.reads hb
  exact eq_dataH q p sa sb (by have := P.ok.units; have := cLine_is; omega) (hQ _ _ (keeps_refl s) (.bool _))
theorem cmp_ne {a b : AV} (ha : a.flat = true) (hb : b.flat = true) (sa : SeqAt.shaped a.py = true) (sb : SeqAt.shaped b.py = true) :
    ∀ s x y Q E, Pre C n I ρ s.heap → Rd C.X s.heap x a → Rd C.X s.heap y b → (∀ v s', Keeps s s' → Rd C.X s'.heap v (.bool !(PyData.eqv a.py b.py)) → Q v s') → wpAny (model PR C.w) C.A (compareOp .NotEq x y) Q E s := by
  intro s x y Q E P ra rb hQ
  obtain ⟨as, q⟩ := ra.reads ha
  obtain ⟨bs, p⟩ := rb.reads hb
  exact ne_dataH q p sa sb (by have := P.ok.units; have := cLine_is; omega) (hQ _ _ (keeps_refl s) (.bool _))
end
end Mine
end -- J9

section -- JA1
open PySem PySem.W PyProof.Rows PySem.Calls
set_option maxRecDepth 100000
namespace Mine

mutual
theorem Rd.it {X F : List Addr} {h h' : Heap} (k : KpIt F h h') (s : ∀ a ∈ F, a ∈ X) : ∀ {v : Value} {d : AV}, Rd X h v d → Rd X h' v d
  | _, _, .none => .none
  | _, _, .bool b => .bool b
  | _, _, .int i t => .int i t
  | _, _, .str x t => .str x t
  | _, _, .tok x t => .tok x t
  | _, _, .tup n e r => .tup n (k _ _ (fun m => n (s _ m)) rfl e) (RdAll.it k s r)
  | _, _, .lst n e r => .lst n (k _ _ (fun m => n (s _ m)) rfl e) (RdAll.it k s r)
  | _, _, .at a => .at a
  | _, _, .rng n e => .rng n (k _ _ (fun m => n (s _ m)) rfl e)
theorem RdAll.it {X F : List Addr} {h h' : Heap} (k : KpIt F h h') (s : ∀ a ∈ F, a ∈ X) : ∀ {vs : List Value} {ds : List AV}, RdAll X h vs ds → RdAll X h' vs ds
  | _, _, .nil => .nil
  | _, _, .cons a r => .cons (Rd.it k s a) (RdAll.it k s r)
end

/-- a list of the frame's own at a -/
noncomputable def OwnI (X : List Addr) (a : Addr) (ds : List AV) (h : Heap) : Prop := ∃ vs n, h.get? a = some (lstO vs n) ∧ RdAll X h vs ds
theorem OwnI.st {X : List Addr} {a : Addr} {ds : List AV} : ∀ h h', Kp h h' → OwnI X a ds h → OwnI X a ds h' := fun _ _ k ⟨vs, n, e, r⟩ => ⟨vs, n, k _ _ e, r.mono k.but⟩
theorem OwnI.sf {X F : List Addr} {a : Addr} {ds : List AV} (s : ∀ b ∈ F, b ∈ X) (ha : a ∉ F) : ∀ h h', KpIt F h h' → OwnI X a ds h → OwnI X a ds h' := fun _ _ k ⟨vs, n, e, r⟩ => ⟨vs, n, k _ _ ha rfl e, r.it k s⟩

section
variable {C : Cx} {n : Nat} {I : Heap → Prop} {ρ : List (Str × AV)}

/-- other facts, the same state -/
theorem SP.with {h : Heap} {J : Heap → Prop} (P : SP C n I ρ h) (hj : J h) (h1 : ∀ h h', Kp h h' → J h → J h') (h2 : ∀ h h', KpIt (frA C.env) h h' → J h → J h') : SP C n J ρ h :=
  ⟨⟨P.ok, P.old, P.ex, hj, h1, P.vars⟩, P.fw, h2⟩

noncomputable abbrev ownC (C : Cx) (a : Addr) : Cx := { C with X := a :: C.X, W := a :: C.W }
/-- x = [], a list that is filled and handed back -/
theorem JS_own {x : Str} {xp lp pos : Pos} {rest : List Stmt} {ds : List AV} (hx : Own C x)
    (k : ∀ a, a ∉ frA C.env → JS (ownC C a) n (OwnI (a :: C.X) a []) ((x, .at a) :: ρ) rest (fun o => match o with | .ret I' d => d = .at a ∧ ∀ h, I' h → OwnI (a :: C.X) a ds h | .next _ _ => False))
    (hs : swapsWith (.List [] lp) (some (.Name x xp)) pos.line C.env = pure false := by rfl) : JS C n I ρ (.Assign [.Name x xp] (.List [] lp) pos :: rest) (Ret (.lst ds)) := by
  refine ⟨fun s P Q E hN hR => ?_⟩
  refine wpAny_execs_cons (wpAny_Assign_Name ?_ hs)
  refine List_ (spliced_none (wpAny_newObj_type ?_))
  generalize ha : s.heap.objs.size = a
  have miss : s.heap.get? a = none := ha ▸ none_size _
  have haX : a ∉ C.X := P.toPre.fresh miss
  have haF : a ∉ frA C.env := fun m => haX (P.ok.sub _ (P.fw.inW _ m))
  generalize hh : s.heap.push { cls := .type "list", dict := none, data := .seq ([] : List Value).toArray } = h₁
  have at₁ : h₁.get? a = some (lstO [] 0) := by rw [← hh, ← ha]; exact Heap.get?_push_size _ rfl
  have kp : Kp s.heap h₁ := hh ▸ Kp.push _
  have h0 : C.H0.get? a = none := by
    cases q : C.H0.get? a with
    | none => rfl
    | some o => have := P.old a o q; rw [miss] at this; cases this
  -- the state of the larger context
  have reX : ∀ {v d}, Rd C.X s.heap v d → Rd (a :: C.X) h₁ v d := fun r => (r.re fun b m => (List.mem_cons.mp m).elim (fun q => .inr (q ▸ miss)) .inl).mono kp.but
  have P₁ : SP (ownC C a) n (OwnI (a :: C.X) a []) ρ h₁ := by
    refine ⟨⟨⟨P.ok.K, P.ok.T, P.ok.hh, P.ok.depth, P.ok.units, P.ok.kind, P.ok.glob, P.ok.blt, ?_, ?_⟩, P.old.trans kp, ?_, ⟨[], 0, at₁, .nil⟩, OwnI.st, ?_⟩, ⟨?_, ?_, ?_, P.fw.inj⟩, OwnI.sf (fun b m => .tail _ (P.ok.sub _ (P.fw.inW _ m))) haF⟩
    · intro b m
      rcases List.mem_cons.mp m with rfl | m
      · exact h0
      · exact P.ok.low b m
    · intro b m
      rcases List.mem_cons.mp m with rfl | m
      · exact .head _
      · exact .tail _ (P.ok.sub _ m)
    · intro b m
      rcases List.mem_cons.mp m with rfl | m
      · exact ⟨_, at₁⟩
      · obtain ⟨o, e⟩ := P.ex b m; exact ⟨o, kp _ _ e⟩
    · intro y d e
      obtain ⟨v, l, r⟩ := P.vars y d e
      exact ⟨v, l.kp kp, reX r⟩
    · obtain ⟨m, hm⟩ := P.fw.ns; exact ⟨m, hm.keeps kp⟩
    · exact fun b m => .tail _ (P.fw.inW _ m)
    · intro y c e; obtain ⟨v, hv⟩ := P.fw.cell y c e; exact ⟨v, Heap.IsCell.kp kp hv⟩
  have hx' : Own (ownC C a) x := hx
  refine store (C := ownC C a) P₁ hx' (.at a) fun s₂ k₂ P₂ => ?_
  obtain ⟨h₂, tk₂, rfl, kk⟩ := k₂
  have back : ∀ s', Ch (a :: C.W) ⟨h₂, s.gens, s.drawn, tk₂, s.os⟩ s' → Ch C.W s s' := by
    rintro s' ⟨h', tk', rfl, k⟩
    refine ⟨h', tk', rfl, fun b o nb e => k b o (fun m => (List.mem_cons.mp m).elim (fun q => by rw [q, miss] at e; cases e) nb) (kk b o (fun m => nb (P.fw.inW _ m)) (kp b o e))⟩
  refine (k a haF).run _ P₂ _ _ (fun I' ρ' s' p => p.elim) fun I' ρ' d v s' p c P' r => ?_
  obtain ⟨rfl, hI⟩ := p
  cases r
  obtain ⟨vs, m, e, ra⟩ := hI _ P'.inv
  refine hR (fun _ => True) [] (.lst ds) (.ref a) s' rfl (back s' c) ⟨⟨P.ok, P'.old, fun b m => P'.ex b (.tail _ m), trivial, fun _ _ _ h => h, fun _ _ h => nomatch h⟩, ⟨P'.fw.ns, P.fw.inW, P'.fw.cell, P.fw.inj⟩, fun _ _ _ h => h⟩ (.lst haX e (ra.re fun b m => .inl (.tail _ m)))
/-- x.append(e) -/
theorem JS_append {x : Str} {xp ap cp pos : Pos} {e : Expr} {rest : List Stmt} {a : Addr} {d : AV} {ds : List AV} {Post : Out → Prop} (hx : ρ.lookup x = some (.at a)) (ha : a ∈ C.W) (haF : a ∉ frA C.env) (he : J C n (OwnI C.X a ds) ρ e d) (hz : ds.length ≤ 1000)
    (k : JS C n (OwnI C.X a (ds ++ [d])) ρ rest Post) (hd : (x == ("__debug__" : Str)) = false := by decide) (hl : (ap.endLine == cp.line) = true := by rfl) (h2 : W.isStarred e = false := by rfl)
    (hi : interactive C.env = false := by rfl) : JS C n (OwnI C.X a ds) ρ (.Expr (.Call (.Attribute (.Name x xp) "append" ap) [e] [] cp) pos :: rest) Post := by
  refine ⟨fun s P Q E hN hR => ?_⟩
  refine wpAny_execs_cons (wpAny_Expr ?_ hi rfl)
  refine ev_meth ((J_name hx hd).run s P.toPre _ _ fun v s₁ k₁ r₁ => ?_) (base_of rfl) (form0 (args := [e]) (by rw [List.any_cons, h2]; rfl) (Nat.le_of_ble_eq_true rfl)) hl
  cases r₁
  have P₁ := P.keeps k₁
  obtain ⟨vs, m, e₁, ra₁⟩ := P₁.inv
  refine getMethod_builtin (T := "list") ⟨_, e₁, rfl⟩ F.plainAttrs_list F.slot_list_append F.type_list_append (fun b q => by cases q; exact ⟨_, e₁, rfl⟩) ?_
  refine callWith_method1 ((JL_cons he JL_nil h2).run cp s₁ P₁.toPre _ _ fun ws s₂ k₂ r₂ => ?_) (star_cons h2) rfl
  cases r₂ with
  | cons r q =>
  cases q
  have P₂ := P₁.keeps k₂
  obtain ⟨vs₂, m₂, e₂, ra₂⟩ := P₂.inv
  have hsz : vs₂.toArray.size ≤ sizeLine := by rw [List.size_toArray, ra₂.length]; exact Nat.le_trans hz (by decide)
  refine wpAny_list_append_plain (hsz := hsz) ⟨m₂, e₂⟩ fun h' hl' hs' => ?_
  dsimp only
  have haX := P.ok.sub _ ha
  have kX : KpBut C.X s₂.heap h' := fun b o nb e => (hs'.2 b fun q => nb (q ▸ haX)).trans e
  have hFX : ∀ b ∈ frA C.env, b ∈ C.X := fun b m => P.ok.sub _ (P.fw.inW _ m)
  have hL : C.env.locals ≠ a := fun q => haF (q ▸ .head _)
  have hC : ∀ y c, C.env.cells.lookup y = some c → c ≠ a := fun y c e q => haF (q ▸ .tail _ (List.mem_map.mpr ⟨(y, c), lookup_mem e, rfl⟩))
  obtain ⟨m', e'⟩ := hl'
  have P₃ : SP C n (OwnI C.X a (ds ++ [d])) ρ h' := by
    refine ⟨⟨P.ok, fun b o e => kX b o (fun m => by have := P.ok.low b m; rw [e] at this; cases this) (P₂.old b o e), fun b m => ?_, ?_, OwnI.st, fun y d e => ?_⟩, ⟨?_, P.fw.inW, fun y c e => ?_, P.fw.inj⟩, OwnI.sf hFX haF⟩
    · by_cases q : b = a
      · subst q; exact ⟨_, e'⟩
      · obtain ⟨o, e⟩ := P₂.ex b m; exact ⟨o, (hs'.2 b q).trans e⟩
    · exact ⟨vs₂ ++ [_], m', by simpa using e', (ra₂.mono kX).append (.cons (r.mono kX) .nil)⟩
    · obtain ⟨v, l, r⟩ := P₂.vars y d e
      refine ⟨v, ?_, r.mono kX⟩
      cases l with
      | loc a b c => exact .loc a (b.sameBut hs' hL) c
      | cell a b c => exact .cell a b (cell_same hs' c (hC _ _ b))
      | free a z b c => exact .free a z b (cell_same hs' c (hC _ _ b))
    · obtain ⟨m, hm⟩ := P₂.fw.ns; exact ⟨m, hm.sameBut hs' hL⟩
    · obtain ⟨v, hv⟩ := P₂.fw.cell y c e; exact ⟨v, cell_same hs' hv (hC _ _ e)⟩
  have kk : Ch C.W s { s₂ with heap := h' } := ((Ch.of k₁).trans (Ch.of k₂)).trans ⟨h', s₂.toks, rfl, fun b o nb e => (hs'.2 b fun q => nb (q ▸ ha)).trans e⟩
  exact k.run _ P₃ _ _ (fun I' ρ' s' p c => hN I' ρ' s' p (kk.trans c)) fun I' ρ' d v s' p c => hR I' ρ' d v s' p (kk.trans c)
end
end Mine
end -- JA1

section -- J5A
open PySem PySem.W PyProof.Rows PySem.Calls
set_option maxRecDepth 100000
namespace Mine

section
variable {C : Cx} {n : Nat} {I : Heap → Prop} {ρ : List (Str × AV)}
theorem enterA {s sB : Shared} {f : Addr} {name qual : Str} {params : Arguments} {body : List Stmt} {scope : Scope} {dV kV doc pm cdv ct oc : Value} {an od : Option Addr} {osl : Array (Option Value)} {args : Args} {binds : List (Str × Value)}
    {R : Result → Shared → Prop} {I0 : Heap → Prop} {ρ0 : List (Str × AV)} {Post : Out → Prop} {W0 : List Addr}
    (P : Pre C (n + 1) I ρ s.heap)
    (ho : (HK C.w.params).lookup f = some ⟨oc, od, .func (fnX name qual params body scope [] dV kV doc pm an cdv ct), osl⟩) (hcd : codeIn (HK C.w.params) cdv qual = true)
    (kB : Keeps s sB) (hbind : ∀ (M : Model) (A : Around) (E : Value → Shared → Prop) (Q : List (Str × Value) → Shared → Prop), Q binds sB → wpAny M A (bindArgs (fnX name qual params body scope [] dV kV doc pm an cdv ct) args) Q E s)
    (hkind : (binds.all fun y => scope.names.lookup y.1 == some .local || scope.names.lookup y.1 == some .cell) = true) (hnd : (binds.map (·.1)).Nodup) (hcn : ((cellsFrom 0 scope.names []).map (·.1)).Nodup)
    (hco : scope.isCoroutine = false) (hgen : scope.isGenerator = false) (hk : scope.kind = .function)
    (hρ : RdB C.X sB.heap binds ρ0) (hI : I0 sB.heap) (hst : ∀ h h', Kp h h' → I0 h → I0 h') (hsf : ∀ L h h', L = sB.heap.objs.size → KpIt (frA (envOfC qual scope L f cdv)) h h' → I0 h → I0 h') (hW : ∀ a ∈ W0, a ∈ C.X)
    (hb : ∀ L, L = sB.heap.objs.size → JS (callC C W0 qual scope L f cdv) n I0 ρ0 body Post)
    (hret : ∀ I' d v s', Post (.ret I' d) → Ch W0 s s' → I' s'.heap → Rd C.X s'.heap v d → R (.ok (.ret v)) s')
    (hnone : ∀ I' ρ' s', Post (.next I' ρ') → Ch W0 s s' → I' s'.heap → R (.ok (.ret .none)) s') : codeAny (model PR C.w) C.A (.call (.ref f) args) R s := by
  have hroom : C.A.depth < recursionLimit := by have := P.ok.depth; show C.A.depth < 1000; omega
  have ho' := P.old _ _ (P.ok.K _ _ ho)
  refine codeAny_call_function (fd := fnX name qual params body scope [] dV kV doc pm an cdv ct) (body := body) hroom ho' rfl hco hgen rfl ((codeRec_of P.ok.K hcd).keeps P.old) (hbind _ _ _ _ ?_)
  refine wpAny_newFunctionEnv_cells hk (kindsX hkind _) fun env he s₁ x => ?_
  subst he
  have PB : Pre C (n + 1) I ρ sB.heap := P.keeps kB
  refine ⟨(P.ok.T.nolimit.keeps PB.old).keeps x.toInCall.keep, codeAny_func ?_⟩
  generalize hL : sB.heap.objs.size = L at x
  have x' : InCallC sB L (bindL (envOfC qual scope L f cdv).kindOf binds fun _ => none) (envOfC qual scope L f cdv).cells (bindC (envOfC qual scope L f cdv).kindOf binds fun _ => none) s₁ := x
  have hmiss : ∀ a ∈ frA (envOfC qual scope L f cdv), sB.heap.get? a = none := by
    intro a ha
    cases q : sB.heap.get? a with
    | none => rfl
    | some o =>
      have lt := Heap.lt_size q
      rw [hL] at lt
      rcases List.mem_cons.mp ha with e | ha
      · rw [e] at lt; exact absurd lt (Nat.lt_irrefl _)
      · obtain ⟨⟨y, c⟩, hm, e⟩ := List.mem_map.mp ha
        have := x'.above y c hm
        have e' : c = a := e
        rw [e'] at this
        exact absurd lt (Nat.lt_asymm this)
  obtain ⟨h₁, tk₁, e₁⟩ := x'.toInCall.same
  have kp : Kp sB.heap s₁.heap := x'.toInCall.keep
  have re : ∀ {v d}, Rd C.X sB.heap v d → Rd (frA (envOfC qual scope L f cdv) ++ C.X) s₁.heap v d := fun r => (r.re fun a ha => (List.mem_append.mp ha).elim (fun m => .inr (hmiss a m)) .inl).mono kp.but
  have P₁ : SP (callC C W0 qual scope L f cdv) n I0 ρ0 s₁.heap := by
    refine ⟨⟨⟨P.ok.K, P.ok.T, P.ok.hh, ?_, ?_, hk, rfl, rfl, ?_, ?_⟩, PB.old.trans kp, ?_, hst _ _ kp hI, hst, ?_⟩, ⟨⟨_, x'.toInCall.ns⟩, fun a m => List.mem_append.mpr (.inl m), fun y c e => ⟨_, x'.cell y c e⟩, fun y z c e e' => name_of_addr x'.apart (lookup_mem e) (lookup_mem e')⟩, fun h h' k => hsf L h h' hL.symm k⟩
    · have := P.ok.depth; show C.A.depth + 1 + n ≤ 500; omega
    · have := P.ok.units; show C.A.units + 3 + 8 * n ≤ 5000; omega
    · intro a ha
      rcases List.mem_append.mp ha with m | m
      · cases q : C.H0.get? a with
        | none => rfl
        | some o => have := PB.old a o q; rw [hmiss a m] at this; cases this
      · exact P.ok.low a m
    · intro a ha
      rcases List.mem_append.mp ha with m | m
      · exact List.mem_append.mpr (.inl m)
      · exact List.mem_append.mpr (.inr (hW a m))
    · intro a ha
      rcases List.mem_append.mp ha with m | m
      · rcases List.mem_cons.mp m with e | m
        · obtain ⟨o, _, _, q, _⟩ := x'.toInCall.ns
          exact ⟨o, e ▸ q⟩
        · obtain ⟨⟨y, c⟩, hm, e⟩ := List.mem_map.mp m
          have hc' : (envOfC qual scope L f cdv).cells.lookup y = some c := lookup_of_mem (cellsFrom_names scope.names 0 (L + 1) [] [] rfl ▸ hcn) hm
          obtain ⟨o, q, _⟩ := x'.cell y c hc'
          exact ⟨o, e ▸ q⟩
      · obtain ⟨o, e⟩ := PB.ex a m; exact ⟨o, kp _ _ e⟩
    · intro y d e
      obtain ⟨v, hv, r⟩ := hρ.at e
      refine ⟨v, ?_, re r⟩
      have hk1 := List.all_eq_true.mp hkind (y, v) (lookup_mem hv)
      rcases Bool.or_eq_true_iff.mp hk1 with q | q
      · have q0 : scope.names.lookup y = some .local := by simpa using q
        have q' : (envOfC qual scope L f cdv).kindOf y = some .local := q0
        exact .loc q' x'.toInCall.ns (bindL_at q' hnd hv)
      · have q0 : scope.names.lookup y = some .cell := by simpa using q
        have q' : (envOfC qual scope L f cdv).kindOf y = some .cell := q0
        have hc := cellsFrom_some (x := y) scope.names (L + 1) [] (.inl q')
        obtain ⟨c, hc⟩ := Option.isSome_iff_exists.mp hc
        have z := x'.cell y c hc
        rw [bindC_at q' hnd hv] at z
        exact .cell q' hc z
  have back : ∀ s', Ch (frA (envOfC qual scope L f cdv) ++ W0) s₁ s' → Ch W0 s s' := by
    rintro s' ⟨h', tk', rfl, k⟩
    have step : Ch W0 sB { s₁ with heap := h', toks := tk' } := ?_
    · exact (Ch.of kB).trans step
    refine ⟨h', tk', by rw [e₁], fun b o nb e => k b o (fun m => ?_) (kp b o e)⟩
    rcases List.mem_append.mp m with m | m
    · rw [hmiss b m] at e; cases e
    · exact nb m
  refine wpAny_mono ((hb L hL.symm).run s₁ P₁ (fun fl s' => R (.ok (.ret (match fl with | .ret v => v | _ => .none))) s') (fun _ _ => False) (fun I' ρ' s' p k P' => hnone I' ρ' s' p (back s' k) P'.inv) fun I' ρ' d v s' p k P' r => ?_) (fun _ _ y => y) fun _ _ y => y.elim
  exact hret I' d v s' p (back s' k) P'.inv (r.re fun a m => .inl (List.mem_append.mpr (.inr m)))
end
end Mine
end -- J5A

section -- R1
open PySem PySem.W PyProof.Rows PySem.Calls
set_option maxRecDepth 100000
set_option maxHeartbeats 400000
namespace Mine
open PySem.Builtin PySem.Builtin.Re
/-- the machine's turns, as a plain function -/
noncomputable def driveF : Nat → Sre.M → Option Sre.M
  | 0, _ => none
  | k + 1, m => let m' := m.runFor reTurnSteps; if m'.outcome.isSome then some m' else driveF k m'
section
variable {M : Model} {A : Around} {E : Value → Shared → Prop} {s : Shared}
theorem drive_to {m' : Sre.M} {Q : Sre.M → Shared → Prop} (hQ : Q m' s) : ∀ (k : Nat) (m : Sre.M), driveF k m = some m' → ∀ n, k ≤ n → wpAny M A (reDrive n m) Q E s
  | 0, m, e, _, _ => by cases e
  | k + 1, m, e, 0, h => absurd h (Nat.not_succ_le_zero _)
  | k + 1, m, e, n + 1, h => by
    unfold driveF at e
    unfold reDrive
    dsimp only at e ⊢
    by_cases q : (m.runFor reTurnSteps).outcome.isSome = true
    · rw [if_pos q] at e ⊢
      cases e
      exact wpAny_pure hQ
    · rw [if_neg q] at e ⊢
      exact wpAny_bind (wpAny_rule (drive_to hQ k _ e n (Nat.le_of_succ_le_succ h)))
theorem run_fails {m m' : Sre.M} {k : Nat} {Q : Option Sre.M → Shared → Prop} (hk : k ≤ 1000) (e : driveF k m = some m') (ho : m'.outcome = some .failed) (hQ : Q none s) : wpAny M A (reRunToEnd m) Q E s := by
  unfold reRunToEnd
  refine wpAny_bind (drive_to ?_ k m e _ (Nat.le_trans hk (by decide)))
  refine wpAny_bind (wpAny_forIn_list (s := s) _ (fun _ _ s' => s' = s) _ ?_ ?_ _ _ rfl)
  · rintro x rest b s' rfl
    split
    · exact wpAny_bind (wpAny_rule (wpAny_pure rfl))
    · exact wpAny_pure rfl
  · rintro b s' rfl
    rw [ho]
    exact wpAny_pure hQ
end
end Mine
end -- R1

section -- R2
open PySem PySem.W PyProof.Rows PySem.Calls
set_option maxRecDepth 100000
set_option maxHeartbeats 400000
namespace Mine
open PySem.Builtin PySem.Builtin.Re
theorem slot_search : Slot "re.Pattern" "search" "re.Pattern.search" :=
  .of (owner := "re.Pattern") (n := "search") (by rw [typeLookup_type, builtinLookup_eq_fast]; kernel_rfl) (by decide +kernel) (by decide +kernel) (by decide +kernel)
    (by first | exact .inl (by decide +kernel) | exact .inr (by decide +kernel)) (by rw [isSubtype_type]; kernel_rfl)
theorem attrs_pat : PlainAttrs "re.Pattern" :=
  ⟨⟨"object.__getattribute__", by rw [typeLookup_type, builtinLookup_eq_fast]; kernel_rfl, by decide +kernel⟩, by rw [typeLookup_type, builtinLookup_eq_fast]; kernel_rfl⟩
theorem type_search : typeOf (.builtin "re.Pattern.search") = pure (.type "method_descriptor") := by show builtinType _ = _; rw [builtinType_eq_fast]; kernel_rfl
theorem entry_search : entryFor table "re.Pattern.search" = some Builtin.«re.Pattern.search» := entryFor_of_tree (by kernel_rfl)
theorem owner_pat : Manifest.owners.lookup (String.ofList ['n', 'r', 'e', 't', 't', 'a', 'P', '.', 'e', 'r'].reverse) = some Manifest.sig_re_Pattern := by kernel_rfl
theorem args_search (a b : Value) : argsOk "re.Pattern.search" ⟨[a, b], []⟩ := by
  unfold argsOk; rw [signature?_of (id := "re.Pattern.search") (n := ['h', 'c', 'r', 'a', 'e', 's']) (o := ['n', 'r', 'e', 't', 't', 'a', 'P', '.', 'e', 'r']) (by kernel_rfl) owner_pat]; kernel_rfl
/-- the code of a pattern -/
noncomputable def codeAt (K : Frag) (a : Addr) : Option (Array Nat) :=
  match K.lookup a with
  | some ⟨.type "re.Pattern", none, .fields fs, _⟩ =>
    if reRawNat (fs.getD 6 .none) == 0 && reRawNat (fs.getD 2 .none) == 0 then
      (match fs.getD 5 .none with
      | .ref T => (match K.lookup T with
        | some ⟨_, _, .seq ws _, _⟩ => some ((ws.map reRawOf).map (·.toNat))
        | _ => none)
      | _ => none)
    else none
  | _ => none
/-- nothing is found -/
noncomputable def failsOn (code : Option (Array Nat)) (x : Str) : Bool :=
  match code with
  | none => false
  | some code => match driveF 100 (Sre.forSearch code x.cps 0 0 x.cps.size false) with
    | some m => (match m.outcome with | some .failed => true | _ => false)
    | none => false
/-- the names and the values that are laid -/
noncomputable def pins : List Str := ["r", "s", "t", "R", "S", "T", "n", "nc", "nb", "nbc", "na", "nac", "nab", "nabc", "nC", "nbC", "naC", "nabC", "nB", "nBc", "naB", "naBc", "nA", "nAc", "nAb", "nAbc"]
noncomputable def vals : List Str := ["a", "b", "c", "0", "1", "2"]
theorem fails41 (w : World) : (pins.all fun x => failsOn (codeAt (HK w.params) 41) x) = true := by kernel_rfl
theorem fails46 (w : World) : (vals.all fun x => failsOn (codeAt (HK w.params) 46) x) = true := by kernel_rfl
end Mine
end -- R2

section -- R3
open PySem PySem.W PyProof.Rows PySem.Calls
set_option maxRecDepth 100000
set_option maxHeartbeats 400000
namespace Mine
open PySem.Builtin PySem.Builtin.Re
theorem codeAt_some {K : Frag} {a : Addr} {code : Array Nat} (h : codeAt K a = some code) :
    ∃ fs sl T o ws n, K.lookup a = some ⟨.type "re.Pattern", none, .fields fs, sl⟩ ∧ reRawNat (fs.getD 6 .none) = 0 ∧ reRawNat (fs.getD 2 .none) = 0 ∧ fs.getD 5 .none = .ref T ∧ K.lookup T = some o ∧ o.data = .seq ws n ∧ (ws.map reRawOf).map (·.toNat) = code := by
  unfold codeAt at h
  split at h
  · rename_i fs sl e
    split at h
    · rename_i hc
      rw [Bool.and_eq_true, beq_iff_eq, beq_iff_eq] at hc
      split at h
      · rename_i T eT
        split at h
        · rename_i c d ws n sl2 e2
          cases h
          exact ⟨fs, sl, T, _, ws, n, e, hc.1, hc.2, eT, e2, rfl, rfl⟩
        · cases h
      · cases h
    · cases h
  · cases h
theorem fails_some {code : Option (Array Nat)} {x : Str} (h : failsOn code x = true) : ∃ c m, code = some c ∧ driveF 100 (Sre.forSearch c x.cps 0 0 x.cps.size false) = some m ∧ m.outcome = some .failed := by
  unfold failsOn at h
  split at h
  · cases h
  · rename_i c
    split at h
    · rename_i m e
      split at h
      · rename_i e2
        exact ⟨c, m, rfl, e, e2⟩
      · cases h
    · cases h
section
variable {prog : Program} {w : World} {A : Around} {E : Value → Shared → Prop} {s : Shared}
theorem reNamed_one (id f : String) (v : Value) : reNamed id f ["string", "pos", "endpos"] 1 [v] [] = pure [some v, none, none] := rfl
theorem search_none {K : Frag} {a : Addr} {x : Str} {t : Tok} {Q : Value → Shared → Prop} (hK : K.In s.heap) (hf : failsOn (codeAt K a) x = true) (hx : x.cps.size ≤ 1000) (hQ : Q .none s) :
    wpAny (model prog w) A (call (.builtin "re.Pattern.search") [.ref a, .str x t]) Q E s := by
  obtain ⟨c, m, ec, em, eo⟩ := fails_some hf
  obtain ⟨fs, sl, T, o, ws, n, e1, e6, e2, e5, eT, eD, eC⟩ := codeAt_some ec
  have hT : s.TypeIs (.ref a) "re.Pattern" := ⟨_, hK _ _ e1, rfl⟩
  refine wpAny_call (codeAny_call_builtin slot_search.plain entry_search (slot_search.check _ _ _ _ _ _ _ _ hT (args_search _ _) ?_))
  show wpAny _ _ (Builtin.«re.Pattern.search» ⟨[.ref a, .str x t], []⟩) _ _ s
  unfold Builtin.«re.Pattern.search» reTarget
  refine wpAny_bind ?_
  dsimp only
  rw [reNamed_one]
  refine wpAny_bind (wpAny_pure ?_)
  refine wpAny_bind (wpAny_pure (wpAny_bind (wpAny_pure ?_)))
  refine wpAny_bind (wpAny_fieldsOf (hK _ _ e1) rfl ?_)
  refine wpAny_bind (wpAny_bind (wpAny_pure (wpAny_pure ?_)))
  dsimp only
  rw [e6]
  refine wpAny_bind ?_
  show wpAny _ _ (pure ()) _ _ s
  refine wpAny_pure ?_
  unfold reRawItems
  rw [e5]
  refine wpAny_bind (wpAny_bind (wpAny_seqItems (hK _ _ eT) eD (wpAny_pure (wpAny_pure ?_))))
  dsimp only
  have h1 : Min.min (Int.toNat 0) x.cps.size = 0 := by omega
  have h2 : Min.min ((2 : Int) ^ 63 - 1).toNat x.cps.size = x.cps.size := by
    have : ((2 : Int) ^ 63 - 1).toNat = 9223372036854775807 := by decide +kernel
    rw [this]; omega
  rw [h1, h2, e2]
  rw [Option.getD_some, eC]
  unfold reAnswer
  refine wpAny_bind (run_fails (by decide) em eo ?_)
  exact wpAny_pure hQ
theorem pins_fail {x : Str} (h : x ∈ pins) : failsOn (codeAt (HK w.params) 41) x = true := List.all_eq_true.mp (fails41 w) x h
theorem vals_fail {x : Str} (h : x ∈ vals) : failsOn (codeAt (HK w.params) 46) x = true := List.all_eq_true.mp (fails46 w) x h
theorem pins_short : ∀ x ∈ pins, x.cps.size ≤ 1000 := by decide +kernel
theorem vals_short : ∀ x ∈ vals, x.cps.size ≤ 1000 := by decide +kernel
end
end Mine
end -- R3

section -- H1
open PySem PySem.W PyProof.Rows PySem.Calls
set_option maxRecDepth 100000
set_option maxHeartbeats 400000
namespace Mine
/-- a Headers object -/
structure Tab (X : List Addr) (t dx l : Addr) (ds : List AV) (h : Heap) : Prop where
  ob : h.get? t = some (instObj 175 dx)
  di : ∃ hs k n, h.get? dx = some (dictOf [⟨hs, .str "_headers" k, .ref l⟩] n)
  li : OwnI X l ds h
theorem Tab.st {X : List Addr} {t dx l : Addr} {ds : List AV} : ∀ h h', Kp h h' → Tab X t dx l ds h → Tab X t dx l ds h' := fun _ _ k T =>
  ⟨k _ _ T.ob, let ⟨a, b, c, e⟩ := T.di; ⟨a, b, c, k _ _ e⟩, OwnI.st _ _ k T.li⟩
theorem Tab.sf {X F : List Addr} {t dx l : Addr} {ds : List AV} (s : ∀ b ∈ F, b ∈ X) (ht : t ∉ F) (hd : dx ∉ F) (hl : l ∉ F) : ∀ h h', KpIt F h h' → Tab X t dx l ds h → Tab X t dx l ds h' := fun _ _ k T =>
  ⟨k _ _ ht rfl T.ob, let ⟨a, b, c, e⟩ := T.di; ⟨a, b, c, k _ _ hd rfl e⟩, OwnI.sf s hl _ _ k T.li⟩
theorem Tab.re {X Y : List Addr} {t dx l : Addr} {ds : List AV} {h : Heap} (k : ∀ a ∈ Y, a ∈ X ∨ h.get? a = Option.none) (T : Tab X t dx l ds h) : Tab Y t dx l ds h :=
  ⟨T.ob, T.di, let ⟨vs, n, e, r⟩ := T.li; ⟨vs, n, e, r.re k⟩⟩
theorem Tab.inst {X : List Addr} {t dx l : Addr} {ds : List AV} {h : Heap} (T : Tab X t dx l ds h) : ∃ hs k n, PySem.W.InstAt h t (instObj 175 dx) 175 (some (dictOf [⟨hs, .str "_headers" k, .ref l⟩] n)) :=
  let ⟨a, b, c, e⟩ := T.di; ⟨a, b, c, T.ob, rfl, rfl, e⟩
section
variable {C : Cx} {n : Nat} {I : Heap → Prop} {ρ : List (Str × AV)}
theorem hd_get (w : World) (x : Str) : plainGet (HK w.params) 175 x = true := by kernel_rfl
theorem hd_dict (w : World) : hasDictIn (HK w.params) 175 = true := by kernel_rfl
theorem hd_attr (w : World) : findIn (HK w.params) (.ref 175) "_headers" = some none := by kernel_rfl
theorem Pre.K {h : Heap} (P : Pre C n I ρ h) : (HK C.w.params).In h := fun a o e => P.old _ _ (P.ok.K a o e)

/-- o._headers -/
theorem J_hdrs {X : List Addr} {t dx l : Addr} {ds : List AV} {x : Str} {xp pos : Pos} (hI : ∀ h, I h → Tab X t dx l ds h) (hx : ρ.lookup x = some (.at t)) (hd' : (x == ("__debug__" : Str)) = false := by decide) :
    J C n I ρ (.Attribute (.Name x xp) "_headers" pos) (.at l) := by
  refine ⟨fun s P Q E hQ => ?_⟩
  refine Attribute_name ((J_name hx hd').run s P _ _ fun v s₁ k₁ r₁ => ?_)
  cases r₁
  have P₁ := P.keeps k₁
  obtain ⟨a, b, c, i⟩ := (hI _ P₁.inv).inst
  refine get_value P₁.K i (plainGet_of (hd_get _ "_headers")).1 (findObj_own (hd_dict _) (hd_attr _) rfl rfl) rfl ?_
  exact hQ _ _ (keeps_trans k₁ (keeps_tk _ _)) (.at _)

/-- a method of a Headers is found -/
theorem gm_tab {X : List Addr} {t dx l f : Addr} {ds : List AV} {m : Str} {pl : Sem Bool} {s : Shared} {Q : Value × List Value → Shared → Prop} {E : Value → Shared → Prop} (P : Pre C n I ρ s.heap) (T : Tab X t dx l ds s.heap)
    (hf : findIn (HK C.w.params) (.ref 175) m = some (some (.ref f))) (hn : isFn (HK C.w.params) (.ref f) = true) (hm : ("_headers" == m) = false) (h : Q (.ref f, [.ref t]) s) : wpAny (model PR C.w) C.A (getMethod (.ref t) m pl) Q E s := by
  obtain ⟨a, b, c, i⟩ := T.inst
  refine method_fn P.K i (plainGet_of (hd_get _ m)).1 (plainGet_of (hd_get _ m)).2 hf (beq_iff_eq.mp hn) ?_ h
  show (lookIn m _).map _ = _
  rw [lookIn_dict]
  unfold getL
  have : (Value.str "_headers" b).isStr m = false := hm
  simp [this]
  rfl
end
end Mine
end -- H1

section -- H2
open PySem PySem.W PyProof.Rows PySem.Calls
set_option maxRecDepth 100000
set_option maxHeartbeats 400000
namespace Mine
section
variable {C : Cx} {n : Nat} {I : Heap → Prop} {ρ : List (Str × AV)}
theorem no_type (w : World) : nsIn (HK w.params) mainGlobals "type" = some none := by kernel_rfl
theorem no_str (w : World) : nsIn (HK w.params) mainGlobals "str" = some none := by kernel_rfl
theorem no_list (w : World) : nsIn (HK w.params) mainGlobals "list" = some none := by kernel_rfl
theorem bt_type : bootBuiltins "type" = some (.type "type") := by kernel_rfl
theorem bt_str : bootBuiltins "str" = some (.type "str") := by kernel_rfl
theorem bt_list : bootBuiltins "list" = some (.type "list") := by kernel_rfl
/-- type(e) -/
theorem ev_type {e : Expr} {fp pos : Pos} {d : AV} {T : String} {s : Shared} {Q : Value → Shared → Prop} {E : Value → Shared → Prop} (P : Pre C n I ρ s.heap) (he : J C n I ρ e d)
    (hT : ∀ (s' : Shared) v, Pre C n I ρ s'.heap → Rd C.X s'.heap v d → s'.TypeIs v T) (hnb : (Value.type T == Value.type "builtin_function_or_method") = false) (hk : C.env.kindOf "type" = some .globalImplicit) (h2 : W.isStarred e = false)
    (hQ : ∀ s', Keeps s s' → Q (.type T) s') : wpAny (model PR C.w) C.A (eval (.Call (.Name "type" fp) [e] [] pos) C.env) Q E s := by
  refine Call_ (ev_builtin P hk (no_type _) bt_type (by decide) (by decide) ?_) call_name
  refine PyProof.Rows.callWith_type1 ((JL_cons he JL_nil h2).run pos s P _ _ fun vs s₁ k₁ r₁ => ?_) (star_cons h2) rfl
  cases r₁ with
  | cons a r =>
  cases r
  exact call_type_of (hT _ _ (P.keeps k₁) a) hnb (hQ _ k₁)
/-- type(e) is str -/
theorem JB_isStr {e : Expr} {fp sp p pos : Pos} {x : Str} (he : J C n I ρ e (.str x)) (hk : C.env.kindOf "type" = some .globalImplicit := by rfl) (hk2 : C.env.kindOf "str" = some .globalImplicit := by rfl) (h2 : W.isStarred e = false := by rfl) :
    JB C n I ρ (.Compare (.Call (.Name "type" fp) [e] [] p) [.Is] [.Name "str" sp] pos) true := by
  refine ⟨fun s P Q E hQ => ?_⟩
  refine wpAny_isTrue_Compare1 (ev_type P he (fun s' v _ r => by cases r; exact typeIs_str _ _ _) (by decide) hk h2 fun s₁ k₁ => ?_) rfl
  refine ev_builtin (P.keeps k₁) hk2 (no_str _) bt_str (by decide) (by decide) ?_
  exact wpAny_is_self rfl (wpAny_truthy_bool (hQ _ k₁))
/-- a global's name, as data -/
theorem J_glob {f : Str} {pos : Pos} {a : Addr} (hK : nsIn (HK C.w.params) mainGlobals f = some (some (.ref a))) (hk : C.env.kindOf f = some .globalImplicit := by rfl) (hd : (f == ("__debug__" : Str)) = false := by decide) : J C n I ρ (.Name f pos) (.at a) :=
  ⟨fun s P Q E hQ => ev_global P hk hK hd (hQ _ _ (keeps_refl s) (.at _))⟩
theorem J_ifexp {c e f : Expr} {pos : Pos} {b : Bool} {d : AV} (hc : JB C n I ρ c b) (he : b = true → J C n I ρ e d) (hf : b = false → J C n I ρ f d) : J C n I ρ (.IfExp c e f pos) d := by
  refine ⟨fun s P Q E hQ => IfExp_ (hc.run s P _ _ fun s₁ k₁ => ?_)⟩
  cases b with
  | true => rw [if_pos rfl]; exact (he rfl).run s₁ (P.keeps k₁) _ _ fun v s₂ k₂ r₂ => hQ v s₂ (keeps_trans k₁ k₂) r₂
  | false => rw [if_neg Bool.false_ne_true]; exact (hf rfl).run s₁ (P.keeps k₁) _ _ fun v s₂ k₂ r₂ => hQ v s₂ (keeps_trans k₁ k₂) r₂
/-- regex.search(value), nothing found -/
theorem JB_search {o : Str} {op ap pos : Pos} {e : Expr} {a : Addr} {x : Str} (ho : ρ.lookup o = some (.at a)) (he : J C n I ρ e (.str x)) (hf : failsOn (codeAt (HK C.w.params) a) x = true) (hx : x.cps.size ≤ 1000) (hd' : (o == ("__debug__" : Str)) = false := by decide)
    (hl : (ap.endLine == pos.line) = true := by rfl) (h2 : W.isStarred e = false := by rfl) : JB C n I ρ (.Call (.Attribute (.Name o op) "search" ap) [e] [] pos) false := by
  refine ⟨fun s P Q E hQ => ?_⟩
  refine isTrue_plain (env := C.env) ?_ rfl
  refine ev_meth ((J_name ho hd').run s P _ _ fun v s₁ k₁ r₁ => ?_) (base_of rfl) (form0 (args := [e]) (by rw [List.any_cons, h2]; rfl) (Nat.le_of_ble_eq_true rfl)) hl
  cases r₁
  have P₁ := P.keeps k₁
  obtain ⟨c, m, ec, em, eo⟩ := fails_some hf
  obtain ⟨fs, sl, T, o, ws, n, e1, _⟩ := codeAt_some ec
  have eh := P₁.K _ _ e1
  refine getMethod_builtin (T := "re.Pattern") ⟨_, eh, rfl⟩ attrs_pat slot_search type_search (fun b q => by cases q; exact ⟨_, eh, rfl⟩) ?_
  refine callWith_method1 ((JL_cons he JL_nil h2).run pos s₁ P₁ _ _ fun ws s₂ k₂ r₂ => ?_) (star_cons h2) rfl
  cases r₂ with
  | cons r q =>
  cases q
  cases r
  exact search_none (P₁.keeps k₂).K hf hx (truthy_none (hQ _ (keeps_trans k₁ k₂)))
theorem at_nre (w : World) : nsIn (HK w.params) mainGlobals "_name_disallowed_re" = some (some (.ref 41)) := by kernel_rfl
theorem at_vre (w : World) : nsIn (HK w.params) mainGlobals "_value_disallowed_re" = some (some (.ref 46)) := by kernel_rfl
/-- a text that may be laid -/
noncomputable def okFor (b : Bool) (x : Str) : Prop := if b then x ∈ pins else x ∈ vals
theorem okFor.fails {b : Bool} {x : Str} (w : World) (h : okFor b x) : failsOn (codeAt (HK w.params) (if b then 41 else 46)) x = true ∧ x.cps.size ≤ 1000 := by
  unfold okFor at h
  cases b with
  | true => exact ⟨pins_fail h, pins_short x h⟩
  | false => exact ⟨vals_fail h, vals_short x h⟩
set_option maxHeartbeats 1000000 in
theorem calls_conv {s : Shared} {t : Addr} {x : Str} {b : Bool} {tk : Tok} {Q : Value → Shared → Prop} {E : Value → Shared → Prop} (P : Pre C (n + 1) I ρ s.heap) (hx : okFor b x) (hQ : ∀ v s', Keeps s s' → Rd C.X s'.heap v (.str x) → Q v s') :
    wpAny (model PR C.w) C.A (call (.ref 76) [.ref t, .str x tk] [("name", .bool b)]) Q E s := by
  obtain ⟨hf, hsz⟩ := hx.fails C.w
  refine wpAny_call ?_
  refine' enterA (sB := s) (binds := [("self", .ref t), ("value", .str x tk), ("name", .bool b)]) (W0 := []) (I0 := fun _ => True) (ρ0 := [("self", .at t), ("value", .str x), ("name", .bool b)]) (Post := Ret (.str x)) P ?ho ?hcd (keeps_refl s) ?hbind ?hkind ?hnd ?hcn ?hco ?hgen ?hk (.cons (.at _) (.cons (.str _ _) (.cons (.bool _) .nil))) trivial (fun _ _ _ h => h) (fun _ _ _ _ _ h => h) (fun _ h => nomatch h) ?hb ?hret ?hnone
  case ho => (unfold HK fragOf; k_is)
  case hcd => (unfold HK fragOf; k_is)
  case hbind => exact BindsTo.of_eq rfl
  case hkind => exact rfl
  case hnd => exact (show (["self", "value", "name"] : List Str).Nodup by decide)
  case hcn => decide
  case hco => exact rfl
  case hgen => exact rfl
  case hk => exact rfl
  case hb =>
    intro L _
    refine JS_if (Mid := Ret (.str x)) (JB_isStr (J_name rfl)) (fun _ => ?_) (fun q => nomatch q) (fun I' ρ' h => h.elim) (fun I' d h => h)
    refine JS_assign (d := .at (if b then 41 else 46)) (J_ifexp (JB_plain (J_name rfl)) ?_ ?_) (.loc rfl) ?_
    · rintro rfl
      exact J_glob (at_nre _)
    · rintro rfl
      exact J_glob (at_vre _)
    · refine JS_if (Mid := fun o => match o with | .next I' ρ' => ρ'.lookup ("value" : Str) = some (.str x) | .ret _ _ => False) (JB_search rfl (J_name rfl) hf hsz) (fun q => nomatch q) (fun _ => JS_nil rfl) (fun I' ρ' h => JS_ret (J_name h) rfl) (fun I' d h => h.elim)
  case hret =>
    rintro I' d v s' hd ⟨h, tk, rfl, k⟩ _ r
    have hd' : d = _ := hd
    subst hd'
    exact hQ v _ ⟨h, tk, rfl, fun b o e => k b o (fun m => nomatch m) e⟩ r
  case hnone => exact fun _ _ _ h => h.elim
end
end Mine
end -- H2

section -- H3
open PySem PySem.W PyProof.Rows PySem.Calls
set_option maxRecDepth 100000
set_option maxHeartbeats 400000
namespace Mine
section
variable {C : Cx} {n : Nat} {I : Heap → Prop} {ρ : List (Str × AV)}
theorem fm_conv (w : World) : findIn (HK w.params) (.ref 175) "_convert_string_type" = some (some (.ref 76)) := by kernel_rfl
theorem fn_conv (w : World) : isFn (HK w.params) (.ref 76) = true := by kernel_rfl
theorem kp_conv (w : World) : keepIn (HK w.params) (.ref 76) = true := by kernel_rfl
theorem formK {env : Env} {pos p : Pos} {e v : Expr} {x : Str} (h : W.isStarred e = false) : methodCallForm ([e].length + [(⟨some x, v, p⟩ : Keyword)].length) (backTo pos (starEach [e] env)) (backToKw pos (keywordEach [⟨some x, v, p⟩] env)) = true := by
  unfold methodCallForm
  rw [all_of_any (back_star (by rw [List.any_cons, h]; rfl))]
  rfl
/-- self._convert_string_type(e, name=b) -/
theorem J_conv {X : List Addr} {t dx l : Addr} {ds : List AV} {o : Str} {op ap pos p kp : Pos} {k : Nat} {e : Expr} {x : Str} {b : Bool} (hI : ∀ h, I h → Tab X t dx l ds h) (ho : ρ.lookup o = some (.at t)) (he : J C (n + 1) I ρ e (.str x)) (hx : okFor b x)
    (hd' : (o == ("__debug__" : Str)) = false := by decide) (hl : (ap.endLine == pos.line) = true := by rfl) (h2 : W.isStarred e = false := by rfl) :
    J C (n + 1) I ρ (.Call (.Attribute (.Name o op) "_convert_string_type" ap) [e] [⟨some "name", .Constant (.bool b) k kp, p⟩] pos) (.str x) := by
  refine ⟨fun s P Q E hQ => ?_⟩
  refine ev_meth ((J_name ho hd').run s P _ _ fun v s₁ k₁ r₁ => ?_) (base_of rfl) (formK h2) hl
  cases r₁
  have P₁ := P.keeps k₁
  refine gm_tab P₁ (hI _ P₁.inv) (fm_conv _) (fn_conv _) (by decide) ?_
  refine callWith_KW P₁.K (kp_conv _) rfl ((JL_cons he JL_nil h2).run pos s₁ P₁ _ _ fun vs s₂ k₂ r₂ => ?_) ?_ (star_cons h2)
  · refine kwAll_cons ((J_bool (C := C) (n := n + 1) (I := I) (ρ := ρ)).run s₂ (P₁.keeps k₂) _ _ fun v s₃ k₃ r₃ => kwAll_nil ⟨((P₁.keeps k₂).keeps k₃).K, ?_⟩)
    cases r₃
    cases r₂ with
    | cons a r =>
    cases r
    cases a
    exact calls_conv ((P₁.keeps k₂).keeps k₃) hx fun v s' k' r' => hQ v s' (keeps_trans k₁ (keeps_trans k₂ (keeps_trans k₃ k'))) r'
  · have := back_star (pos := pos) (env := C.env) (es := [e]) (by rw [List.any_cons, h2]; rfl)
    rw [this]; rfl
/-- the lines of a table, one after the other -/
theorem Itr_tab {X : List Addr} {t dx l : Addr} {ds : List AV} (hI : ∀ h, I h → Tab X t dx l ds h) (hX : ∀ a ∈ C.X, a ∈ X) (hl : l ∉ C.W) : Itr C n I ρ (.at l) ds := by
  refine ⟨fun s v Q E P r hQ => ?_⟩
  cases r
  obtain ⟨vs, m, ea, ra⟩ := (hI _ P.inv).li
  have hL : s.heap.IsList l vs.toArray := ⟨_, ea, rfl, _, rfl⟩
  have hne : l ≠ s.heap.objs.size := Nat.ne_of_lt (Heap.lt_size ea)
  refine wpAny_pyIter_list hL ?_
  have W := Walks.list (prog := PR) (w := C.w) P.ok.hh s.heap.objs.size l hne vs.toArray
  have hsz : vs.toArray.size = ds.length := by rw [List.size_toArray, ra.length]
  rw [hsz] at W
  refine hQ _ _ _ _ _ (none_size _) (keeps_h' s (Kp.push _)) W ⟨⟨_, Heap.get?_push_size _ rfl, rfl, rfl⟩, hL.push _⟩ ?_ ?_ ?_
  · intro b hb
    rcases List.mem_cons.mp hb with e | hb
    · exact .inl e
    · rw [List.mem_singleton.mp hb]; exact .inr ⟨hl, _, ea⟩
  · intro i u hu
    obtain ⟨d, h1, h2⟩ := ra.get' (by simpa using hu)
    exact ⟨d, h1, h2.re fun a m => .inl (hX a m)⟩
  · rintro i h ⟨⟨o, e, c, _⟩, _⟩
    exact ⟨o, _, e, c, by decide, by decide⟩
/-- what is not written may be forgotten -/
theorem J_noW {W' : List Addr} {e : Expr} {d : AV} (h : J { C with W := W' } n I ρ e d) (hs : ∀ a ∈ W', a ∈ C.X) : J C n I ρ e d :=
  ⟨fun s P Q E hQ => h.run s ⟨⟨P.ok.K, P.ok.T, P.ok.hh, P.ok.depth, P.ok.units, P.ok.kind, P.ok.glob, P.ok.blt, P.ok.low, hs⟩, P.old, P.ex, P.inv, P.st, P.vars⟩ Q E hQ⟩
/-- the frame of a callee under a table -/
theorem fr_miss {h : Heap} {qual : Str} {scope : Scope} {f : Addr} {cdv : Value} : ∀ a ∈ frA (envOfC qual scope h.objs.size f cdv), h.get? a = none := by
  intro a ha
  cases q : h.get? a with
  | none => rfl
  | some o =>
    have lt := Heap.lt_size q
    rcases List.mem_cons.mp ha with e | ha
    · rw [e] at lt; exact absurd lt (Nat.lt_irrefl _)
    · obtain ⟨⟨y, c⟩, hm, e⟩ := List.mem_map.mp ha
      have ok := cellsFrom_ok scope.names (h.push { cls := .type "frame", data := .dict #[] }) (h.objs.size + 1) [] ⟨fun _ _ hm => (nomatch hm), List.Pairwise.nil⟩ (by rw [Heap.size_push]; exact Nat.le_refl _)
      rw [Heap.size_push] at ok
      have h2 := (ok.empty y c hm).2
      have e' : c = a := e
      rw [e'] at h2
      exact absurd lt (Nat.not_lt.mpr (Nat.le_of_succ_le h2))
/-- a method that changes nothing -/
theorem calls_tab {f : Addr} {name qual : Str} {params : Arguments} {body : List Stmt} {scope : Scope} {dV kV doc pm cdv ct oc : Value} {an od : Option Addr} {osl : Array (Option Value)} {xs : List Str} {es fs : List AV} {d : AV} {t dx l : Addr} {ds : List AV}
    (hI : ∀ h, I h → Tab C.X t dx l ds h)
    (ho : (HK C.w.params).lookup f = some ⟨oc, od, .func (fnX name qual params body scope [] dV kV doc pm an cdv ct), osl⟩) (hcd : codeIn (HK C.w.params) cdv qual = true)
    (hbind : ∀ (s : Shared) vs, (HK C.w.params).In s.heap → RdAll C.X s.heap vs es → ∃ ws, RdAll C.X s.heap ws fs ∧ BindsTo s (fnX name qual params body scope [] dV kV doc pm an cdv ct) ⟨vs, []⟩ (xs.zip ws))
    (hlen : xs.length = fs.length) (hkind : (xs.all fun y => scope.names.lookup y == some .local || scope.names.lookup y == some .cell) = true) (hnd : xs.Nodup) (hcn : ((cellsFrom 0 scope.names []).map (·.1)).Nodup)
    (hco : scope.isCoroutine = false) (hgen : scope.isGenerator = false) (hk : scope.kind = .function)
    (hb : ∀ L, t ∉ frA (envOfC qual scope L f cdv) → dx ∉ frA (envOfC qual scope L f cdv) → l ∉ frA (envOfC qual scope L f cdv) → JS (callC C [] qual scope L f cdv) n (Tab (frA (envOfC qual scope L f cdv) ++ C.X) t dx l ds) (xs.zip fs) body (Ret d)) : CallsB C (n + 1) I ρ (.ref f) es d := by
  refine ⟨fun s vs Q E P r hQ => ?_⟩
  obtain ⟨ws, rw', hb'⟩ := hbind s vs P.K r
  have hl' : xs.length = ws.length := by rw [hlen, rw'.length]
  have T := hI _ P.inv
  have miss := fr_miss (h := s.heap) (qual := qual) (scope := scope) (f := f) (cdv := cdv)
  have hx : ∀ {a o}, s.heap.get? a = some o → a ∉ frA (envOfC qual scope s.heap.objs.size f cdv) := fun e m => by rw [miss _ m] at e; cases e
  obtain ⟨_, _, _, edx⟩ := T.di
  obtain ⟨_, _, el, _⟩ := T.li
  have f1 := hx T.ob
  have f2 := hx edx
  have f3 := hx el
  have z1 : (xs.zip ws).map (·.1) = xs := by rw [List.map_fst_zip]; omega
  refine wpAny_call ?_
  refine enterA (sB := s) (binds := xs.zip ws) (W0 := []) (I0 := Tab (frA (envOfC qual scope s.heap.objs.size f cdv) ++ C.X) t dx l ds) (ρ0 := xs.zip fs) (Post := Ret d) P ho hcd (keeps_refl s) (fun M A E Q h => hb' M A E Q h) ?_ (by rw [z1]; exact hnd) hcn hco hgen hk ?_
    (T.re fun a m => (List.mem_append.mp m).elim (fun m => .inr (miss _ m)) .inl) Tab.st ?_ (fun _ h => nomatch h) ?_ ?_ ?_
  · rw [List.all_eq_true] at hkind ⊢
    rintro ⟨y, v⟩ hm
    exact hkind y (List.of_mem_zip hm).1
  · clear hb hb' hbind hkind hnd z1 r hQ
    induction xs generalizing ws fs with
    | nil => exact .nil
    | cons y xs ih =>
      cases rw' with
      | nil => cases hlen
      | cons a r => exact .cons a (ih (by simpa using hlen) _ r (by simpa using hl'))
  · rintro L h h' rfl
    exact Tab.sf (fun b m => List.mem_append.mpr (.inl m)) f1 f2 f3 h h'
  · rintro L rfl
    exact hb _ f1 f2 f3
  · rintro I' d v s' hd ⟨h, tk, rfl, k⟩ _ r
    have hd' : d = _ := hd
    subst hd'
    exact hQ v _ ⟨h, tk, rfl, fun b o e => k b o (fun m => nomatch m) e⟩ r
  · exact fun _ _ _ h => h.elim
end
end Mine
end -- H3

section -- M1
open PySem PySem.W PyProof.Rows PySem.Calls
set_option maxRecDepth 100000
set_option maxHeartbeats 2000000
namespace Mine

section
variable {C : Cx} {n : Nat} {I : Heap → Prop} {ρ : List (Str × AV)}
theorem getD_at {ms : List Int} {i : Nat} (h : i < ms.length) : (ms.map AV.int)[i]? = some (.int (ms.getD i 0)) := by
  rw [List.getElem?_map, List.getElem?_eq_getElem h]
  simp [List.getD, List.getElem?_eq_getElem h]
theorem calls_medlow {ns ms : List Int} (hz : ns.length < 64) (hne : 0 < ns.length) (hm : ∀ ks : List Int, ks.Perm ns → ks.Pairwise (· ≤ ·) → ks = ms) (hl : ms.length = ns.length) :
    CallsB C (n + 1) I ρ (.ref 199) [.lst (ns.map .int)] (.int (ms.getD ((ms.length - 1) / 2) 0)) := by
  refine' calls_pure (x := "data") ?ho ?hcd ?hbind ?hkind ?hcn ?hco ?hgen ?hk ?hb
  case ho => (unfold HK fragOf; k_is)
  case hcd => (unfold HK fragOf; k_is)
  case hbind => exact fun _ => rfl
  case hkind => exact rfl
  case hcn => decide
  case hco => exact rfl
  case hgen => exact rfl
  case hk => exact rfl
  case hb =>
    intro L
    have hL : (List.map AV.int ms).length = ms.length := List.length_map ..
    refine JS_assign (J_callB (JL_cons (J_name rfl) JL_nil) (calls_sorted hz hm) (no_sorted _) bt_sorted) (.loc rfl) ?_
    refine JS_assign (J_callB (JL_cons (J_name rfl) JL_nil) (calls_len (by rw [hL, hl]; omega)) (no_len _) bt_len) (.loc rfl) ?_
    rw [hL]
    refine JS_if (Mid := fun o => o = .next (fun _ => True) [("n", .int ms.length), ("data", .lst (ms.map .int)), ("data", .lst (ns.map .int))]) (JB_eqI (J_name rfl) J_int) (fun h => ?_) (fun _ => JS_nil rfl) (fun I' ρ' h => ?_) (fun _ _ h => nomatch h)
    · have h' : ((ms.length : Int)) = 0 := by simpa using h
      omega
    cases h
    refine JS_if (Mid := Ret _) (JB_eqI (J_mod (J_name rfl) J_int (by decide)) J_int) (fun h => ?_) (fun h => ?_) (fun _ _ h => h.elim) (fun _ _ h => h)
    · have h' : (ms.length : Int).fmod 2 = 1 := by simpa using h
      have e : ((ms.length : Int).fdiv 2).toNat = (ms.length - 1) / 2 := by rw [Int.fdiv_eq_ediv_of_nonneg _ (by decide)]; rw [Int.fmod_eq_emod_of_nonneg _ (by decide)] at h'; omega
      have e0 : 0 ≤ (ms.length : Int).fdiv 2 := by rw [Int.fdiv_eq_ediv_of_nonneg _ (by decide)]; omega
      refine JS_ret (J_item (J_name rfl) (J_divK (J_name rfl) J_int (by decide) (by decide)) e0 (by rw [Int.fdiv_eq_ediv_of_nonneg _ (by decide)]; omega) ?_) rfl
      rw [e]
      exact getD_at (by omega)
    · have h' : ¬ (ms.length : Int).fmod 2 = 1 := by simpa using h
      have e : ((ms.length : Int).fdiv 2 - 1).toNat = (ms.length - 1) / 2 := by rw [Int.fdiv_eq_ediv_of_nonneg _ (by decide)]; rw [Int.fmod_eq_emod_of_nonneg _ (by decide)] at h'; omega
      have e0 : 0 ≤ (ms.length : Int).fdiv 2 - 1 := by rw [Int.fdiv_eq_ediv_of_nonneg _ (by decide)]; rw [Int.fmod_eq_emod_of_nonneg _ (by decide)] at h'; omega
      refine JS_ret (J_item (J_name rfl) (J_sub (J_divK (J_name rfl) J_int (by decide) (by decide)) J_int) e0 (by rw [Int.fdiv_eq_ediv_of_nonneg _ (by decide)]; omega) ?_) rfl
      rw [e]
      exact getD_at (by omega)
theorem calls_medhigh {ns ms : List Int} (hz : ns.length < 64) (hne : 0 < ns.length) (hm : ∀ ks : List Int, ks.Perm ns → ks.Pairwise (· ≤ ·) → ks = ms) (hl : ms.length = ns.length) :
    CallsB C (n + 1) I ρ (.ref 206) [.lst (ns.map .int)] (.int (ms.getD (ms.length / 2) 0)) := by
  refine' calls_pure (x := "data") ?ho ?hcd ?hbind ?hkind ?hcn ?hco ?hgen ?hk ?hb
  case ho => (unfold HK fragOf; k_is)
  case hcd => (unfold HK fragOf; k_is)
  case hbind => exact fun _ => rfl
  case hkind => exact rfl
  case hcn => decide
  case hco => exact rfl
  case hgen => exact rfl
  case hk => exact rfl
  case hb =>
    intro L
    have hL : (List.map AV.int ms).length = ms.length := List.length_map ..
    refine JS_assign (J_callB (JL_cons (J_name rfl) JL_nil) (calls_sorted hz hm) (no_sorted _) bt_sorted) (.loc rfl) ?_
    refine JS_assign (J_callB (JL_cons (J_name rfl) JL_nil) (calls_len (by rw [hL, hl]; omega)) (no_len _) bt_len) (.loc rfl) ?_
    rw [hL]
    refine JS_if (Mid := fun o => o = .next (fun _ => True) [("n", .int ms.length), ("data", .lst (ms.map .int)), ("data", .lst (ns.map .int))]) (JB_eqI (J_name rfl) J_int) (fun h => ?_) (fun _ => JS_nil rfl) (fun I' ρ' h => ?_) (fun _ _ h => nomatch h)
    · have h' : ((ms.length : Int)) = 0 := by simpa using h
      omega
    cases h
    have e : ((ms.length : Int).fdiv 2).toNat = ms.length / 2 := by rw [Int.fdiv_eq_ediv_of_nonneg _ (by decide)]; omega
    have e0 : 0 ≤ (ms.length : Int).fdiv 2 := by rw [Int.fdiv_eq_ediv_of_nonneg _ (by decide)]; omega
    refine JS_ret (J_item (J_name rfl) (J_divK (J_name rfl) J_int (by decide) (by decide)) e0 (by rw [Int.fdiv_eq_ediv_of_nonneg _ (by decide)]; omega) ?_) rfl
    rw [e]
    exact getD_at (by omega)
end
end Mine
end -- M1

section -- PL
namespace Mine
noncomputable def ins (a : Int) : List Int → List Int
  | [] => [a]
  | b :: l => if a ≤ b then a :: b :: l else b :: ins a l
noncomputable def isort : List Int → List Int
  | [] => []
  | a :: l => ins a (isort l)
theorem ins_perm (a : Int) : ∀ l : List Int, (ins a l).Perm (a :: l)
  | [] => List.Perm.refl _
  | b :: l => by
    unfold ins
    split
    · exact List.Perm.refl _
    · exact ((ins_perm a l).cons b).trans (List.Perm.swap a b l)
theorem isort_perm : ∀ l : List Int, (isort l).Perm l
  | [] => List.Perm.refl _
  | a :: l => (ins_perm a (isort l)).trans ((isort_perm l).cons a)
theorem ins_sorted (a : Int) : ∀ l : List Int, l.Pairwise (· ≤ ·) → (ins a l).Pairwise (· ≤ ·)
  | [], _ => by unfold ins; exact List.pairwise_singleton ..
  | b :: l, h => by
    unfold ins
    have hb := List.pairwise_cons.mp h
    split
    · rename_i q
      refine List.pairwise_cons.mpr ⟨fun x hx => ?_, h⟩
      rcases List.mem_cons.mp hx with e | hx
      · rw [e]; exact q
      · exact Int.le_trans q (hb.1 x hx)
    · rename_i q
      refine List.pairwise_cons.mpr ⟨fun x hx => ?_, ins_sorted a l hb.2⟩
      rcases List.mem_cons.mp ((ins_perm a l).mem_iff.mp hx) with e | hx
      · rw [e]; omega
      · exact hb.1 x hx
theorem isort_sorted : ∀ l : List Int, (isort l).Pairwise (· ≤ ·)
  | [] => List.Pairwise.nil
  | a :: l => ins_sorted a _ (isort_sorted l)
theorem isort_only {ks ns : List Int} (p : ks.Perm ns) (s : ks.Pairwise (· ≤ ·)) : ks = isort ns :=
  List.Perm.eq_of_pairwise (le := (· ≤ ·)) (fun _ _ _ _ h k => Int.le_antisymm h k) s (isort_sorted ns) (p.trans (isort_perm ns).symm)
theorem isort_length (ns : List Int) : (isort ns).length = ns.length := (isort_perm ns).length_eq
noncomputable def medL (ns : List Int) : Int := (isort ns).getD ((ns.length - 1) / 2) 0
noncomputable def medH (ns : List Int) : Int := (isort ns).getD (ns.length / 2) 0
end Mine
end -- PL

section -- PM
namespace Mine
noncomputable def rAt (r : List Int) (i : Int) : Int := r.getD i.toNat 0
/-- what the wish w gets on the line a, b, c -/
noncomputable def told3 (a b c w : Int) : Int := [a, b, c].getD w.toNat 0
noncomputable def pay3 (a b c w : Int) : Int := (([a, b, c].filter fun g => decide (0 < (w - told3 a b c w) * (g - told3 a b c w))).length : Nat)
noncomputable def mid3 (a b c w : Int) : Bool := medL [w, a, c] == told3 a b c w
noncomputable def wishF (a b c : Int) (q : Int × Bool) (w : Int) : Int × Bool := (q.1 + pay3 a b c w, q.2 && mid3 a b c w)
noncomputable def lineF (r : List Int) (wt : Int) (q : Int × Bool) (x : Int) : Int × Bool :=
  if (x.fdiv wt).fmod 3 == 0 then [0, 1, 2].foldl (wishF (rAt r x) (rAt r (x + wt)) (rAt r (x + 2 * wt))) q else q
noncomputable def ints27 : List Int := (List.range 27).map fun (i : Nat) => (i : Int)
noncomputable def weightF (r : List Int) (q : Int × Bool) (wt : Int) : Int × Bool := ints27.foldl (lineF r wt) q
noncomputable def lies (r : List Int) : Int × Bool := [9, 3, 1].foldl (weightF r) (0, true)
end Mine
end -- PM

section -- M2a
open PySem PySem.W PyProof.Rows PySem.Calls
set_option maxRecDepth 100000
set_option maxHeartbeats 400000
namespace Mine
section
variable {C : Cx} {n : Nat} {I : Heap → Prop} {ρ : List (Str × AV)}
theorem calls_medL {ns : List Int} (hz : ns.length < 64 := by exact Nat.le_of_ble_eq_true rfl) (hne : 0 < ns.length := by exact Nat.le_of_ble_eq_true rfl) : CallsB C (n + 1) I ρ (.ref 199) [.lst (ns.map .int)] (.int (medL ns)) := by
  have h := calls_medlow (C := C) (n := n) (I := I) (ρ := ρ) (ms := isort ns) hz hne (fun ks p s => isort_only p s) (isort_length ns)
  rw [isort_length] at h
  exact h
theorem calls_medH {ns : List Int} (hz : ns.length < 64 := by exact Nat.le_of_ble_eq_true rfl) (hne : 0 < ns.length := by exact Nat.le_of_ble_eq_true rfl) : CallsB C (n + 1) I ρ (.ref 206) [.lst (ns.map .int)] (.int (medH ns)) := by
  have h := calls_medhigh (C := C) (n := n) (I := I) (ρ := ρ) (ms := isort ns) hz hne (fun ks p s => isort_only p s) (isort_length ns)
  rw [isort_length] at h
  exact h

/-- a call of one of the text's defs -/
theorem J_callF {f : Str} {a : Addr} {fp pos : Pos} {e : Expr} {rest : List Expr} {ds : List AV} {d : AV} (ha : JL C n I ρ (e :: rest) ds) (hc : CallsB C n I ρ (.ref a) ds d)
    (hK : nsIn (HK C.w.params) mainGlobals f = some (some (.ref a))) (hF : keepIn (HK C.w.params) (.ref a) = true)
    (hk : C.env.kindOf f = some .globalImplicit := by rfl) (hd : (f == ("__debug__" : Str)) = false := by decide)
    (h2 : W.isStarred e = false := by rfl) (h3 : rest.any W.isStarred = false := by rfl) : J C n I ρ (.Call (.Name f fp) (e :: rest) [] pos) d := by
  refine ⟨fun s P Q E hQ => ?_⟩
  refine Call_ (ev_global P hk hK hd ?_) call_name
  refine callWith_K (P.ok.K) hF (ha.run pos s P _ _ fun vs s₁ k₁ r₁ => ⟨fun b o e => (P.keeps k₁).old b o (P.ok.K b o e), ?_⟩) (star_cons h2) (back_star h3)
  exact hc.run s₁ vs _ _ (P.keeps k₁) r₁ fun v s₂ k₂ r₂ => hQ v s₂ (keeps_trans k₁ k₂) r₂

theorem at_low (w : World) : nsIn (HK w.params) mainGlobals "median_low" = some (some (.ref 199)) := by kernel_rfl
theorem at_high (w : World) : nsIn (HK w.params) mainGlobals "median_high" = some (some (.ref 206)) := by kernel_rfl
theorem fn_low (w : World) : keepIn (HK w.params) (.ref 199) = true := by kernel_rfl
theorem fn_high (w : World) : keepIn (HK w.params) (.ref 206) = true := by kernel_rfl
theorem mul2 {a : Int} : IntMulOk 2 a := IntMulOk.of_left (by decide)

noncomputable def triples : List (Int × Int × Int) := [(9, 3, 1), (9, 1, 3), (3, 9, 1), (3, 1, 9), (1, 9, 3), (1, 3, 9)]

noncomputable def wayOk (r : List Int) (t : Int × Int × Int) : Prop :=
  medL [0, 1, 2, 2, rAt r 0, rAt r (2 * t.1), rAt r (2 * t.1 + 2 * t.2.1), rAt r (2 * t.1 + 2 * t.2.1 + 2 * t.2.2)] = rAt r (2 * t.1 + t.2.1) ∧
  medH [rAt r 0, rAt r (2 * t.1), rAt r (2 * t.1 + 2 * t.2.1), rAt r (2 * t.1 + 2 * t.2.1 + 2 * t.2.2), 0, 0, 1, 2] = rAt r (2 * t.1 + t.2.1) ∧
  medH [rAt r 0, rAt r (2 * t.1), rAt r (2 * t.1 + 2 * t.2.1), rAt r (2 * t.1 + 2 * t.2.1 + 2 * t.2.2), 0, 1, 2] = rAt r (2 * t.1 + t.2.1)
theorem J_rule {v i : Expr} {pos : Pos} {r : List Int} {k : Int} (hv : J C n I ρ v (.lst (r.map .int))) (hi : J C n I ρ i (.int k)) (h0 : 0 ≤ k) (hk : k < r.length) (hz : r.length < 1000)
    (hs : ∀ a t, subscripted i false (.ref a) (.int k t) = operate [.ref a, .int k t] (getItem (.ref a) (.int k t)) := by intro _ _; rfl) : J C n I ρ (.Subscript v i pos) (.int (rAt r k)) :=
  J_item hv hi h0 (by omega) (getD_at (by omega)) hs

end
end Mine
end -- M2a

section -- M2b
open PySem PySem.W PyProof.Rows PySem.Calls
set_option maxRecDepth 100000
set_option maxHeartbeats 400000
namespace Mine
section
variable {C : Cx} {n : Nat} {I : Heap → Prop} {ρ : List (Str × AV)}
theorem calls_ways {r : List Int} (hr : r.length = 27) (hw : ∀ t ∈ triples, wayOk r t) : CallsB C (n + 2) I ρ (.ref 233) [.lst (r.map .int)] (.bool true) := by
  refine' calls_pure (x := "rule") ?ho ?hcd ?hbind ?hkind ?hcn ?hco ?hgen ?hk ?hb
  case ho => (unfold HK fragOf; k_is)
  case hcd => (unfold HK fragOf; k_is)
  case hbind => exact fun _ => rfl
  case hkind => exact rfl
  case hcn => decide
  case hco => exact rfl
  case hgen => exact rfl
  case hk => exact rfl
  case hb =>
    intro L
    refine JS_for (di := .tup [.tup [.int 9, .int 3, .int 1], .tup [.int 9, .int 1, .int 3], .tup [.int 3, .int 9, .int 1], .tup [.int 3, .int 1, .int 9], .tup [.int 1, .int 9, .int 3], .tup [.int 1, .int 3, .int 9]]) ?hi Itr_tup
      (fun _ I' ρ' => I' = (fun _ => True) ∧ List.lookup ("rule" : Str) ρ' = some (.lst (r.map .int))) ?h0 ?_ ?_ ?hs
    case hs => intro v; rfl
    case h0 => exact ⟨rfl, rfl⟩
    case hi => exact J_tuple (JL_cons (J_tuple (JL_cons J_int (JL_cons J_int (JL_cons J_int JL_nil)))) (JL_cons (J_tuple (JL_cons J_int (JL_cons J_int (JL_cons J_int JL_nil)))) (JL_cons (J_tuple (JL_cons J_int (JL_cons J_int (JL_cons J_int JL_nil))))
      (JL_cons (J_tuple (JL_cons J_int (JL_cons J_int (JL_cons J_int JL_nil)))) (JL_cons (J_tuple (JL_cons J_int (JL_cons J_int (JL_cons J_int JL_nil)))) (JL_cons (J_tuple (JL_cons J_int (JL_cons J_int (JL_cons J_int JL_nil)))) JL_nil))))))
    · rintro i d I' ρ' hd ⟨rfl, hrule⟩
      have hm : ∃ t ∈ triples, d = .tup [.int t.1, .int t.2.1, .int t.2.2] := by
        have := List.mem_of_getElem? hd
        simp only [List.mem_cons, List.not_mem_nil, or_false] at this
        rcases this with e | e | e | e | e | e <;> subst e
        · exact ⟨(9, 3, 1), by simp [triples], rfl⟩
        · exact ⟨(9, 1, 3), by simp [triples], rfl⟩
        · exact ⟨(3, 9, 1), by simp [triples], rfl⟩
        · exact ⟨(3, 1, 9), by simp [triples], rfl⟩
        · exact ⟨(1, 9, 3), by simp [triples], rfl⟩
        · exact ⟨(1, 3, 9), by simp [triples], rfl⟩
      obtain ⟨⟨t, m, l⟩, ht, rfl⟩ := hm
      have hb : 1 ≤ t ∧ 1 ≤ m ∧ 1 ≤ l ∧ 2 * t + 2 * m + 2 * l ≤ 26 := by
        simp only [triples, List.mem_cons, Prod.mk.injEq, List.not_mem_nil, or_false] at ht
        omega
      obtain ⟨w1, w2, w3⟩ := hw _ ht
      refine ⟨_, JA_tup (JAs_cons (JA_name (.loc rfl)) (JAs_cons (JA_name (.loc rfl)) (JAs_cons (JA_name (.loc rfl)) JAs_nil))) rfl, ?_⟩
      dsimp only at w1 w2 w3 ⊢
      obtain ⟨b1, b2, b3, b4⟩ := hb
      refine JS_assign (d := .lst [.int (rAt r 0), .int (rAt r (2 * t)), .int (rAt r (2 * t + 2 * m)), .int (rAt r (2 * t + 2 * m + 2 * l))]) ?_ (.loc rfl) ?_
      · exact J_list (JL_cons (J_rule (J_name hrule) J_int (by omega) (by omega) (by omega)) (JL_cons (J_rule (J_name hrule) (J_mul J_int (J_name rfl) mul2) (by omega) (by omega) (by omega))
          (JL_cons (J_rule (J_name hrule) (J_add (J_mul J_int (J_name rfl) mul2) (J_mul J_int (J_name rfl) mul2)) (by omega) (by omega) (by omega))
          (JL_cons (J_rule (J_name hrule) (J_add (J_add (J_mul J_int (J_name rfl) mul2) (J_mul J_int (J_name rfl) mul2)) (J_mul J_int (J_name rfl) mul2)) (by omega) (by omega) (by omega)) JL_nil))))
      refine JS_assign (d := .int (rAt r (2 * t + m))) ?_ (.loc rfl) ?_
      · exact J_rule (J_name hrule) (J_add (J_mul J_int (J_name rfl) mul2) (J_name rfl)) (by omega) (by omega) (by omega)
      refine JS_if (Mid := fun o => ∃ ρ'', o = .next (fun _ => True) ρ'' ∧ List.lookup ("rule" : Str) ρ'' = some (.lst (r.map .int)) ∧ List.lookup ("told" : Str) ρ'' = some (.int (rAt r (2 * t + m))) ∧ List.lookup ("met" : Str) ρ'' = some (.lst [.int (rAt r 0), .int (rAt r (2 * t)), .int (rAt r (2 * t + 2 * m)), .int (rAt r (2 * t + 2 * m + 2 * l))]))
        (JB_or (a := false) (b := false) ?_ (fun _ => ?_)) (fun h => nomatch h) (fun _ => JS_nil ⟨_, rfl, hrule, rfl, rfl⟩) ?_ (fun _ _ ⟨_, h, _⟩ => nomatch h)
      · refine JB_cast ?e (JB_neI (a := medL [0, 1, 2, 2, rAt r 0, rAt r (2 * t), rAt r (2 * t + 2 * m), rAt r (2 * t + 2 * m + 2 * l)]) (b := rAt r (2 * t + m)) ?_ (J_name rfl))
        case e => rw [w1]; exact bne_self_eq_false _
        exact J_callF (JL_cons (J_cat (J_list (JL_cons J_int (JL_cons J_int (JL_cons J_int (JL_cons J_int JL_nil))))) (J_name rfl)) JL_nil) (calls_medL (ns := [0, 1, 2, 2, rAt r 0, rAt r (2 * t), rAt r (2 * t + 2 * m), rAt r (2 * t + 2 * m + 2 * l)])) (at_low _) (fn_low _)
      · refine JB_cast ?e (JB_neI (a := medH [rAt r 0, rAt r (2 * t), rAt r (2 * t + 2 * m), rAt r (2 * t + 2 * m + 2 * l), 0, 0, 1, 2]) (b := rAt r (2 * t + m)) ?_ (J_name rfl))
        case e => rw [w2]; exact bne_self_eq_false _
        exact J_callF (JL_cons (J_cat (J_name rfl) (J_list (JL_cons J_int (JL_cons J_int (JL_cons J_int (JL_cons J_int JL_nil)))))) JL_nil) (calls_medH (ns := [rAt r 0, rAt r (2 * t), rAt r (2 * t + 2 * m), rAt r (2 * t + 2 * m + 2 * l), 0, 0, 1, 2])) (at_high _) (fn_high _)
      · rintro I' ρ₂ ⟨ρ'', e, h1, h2, h3⟩
        cases e
        refine JS_if (Mid := fun o => o = .next (fun _ => True) ρ₂) (JB_cast (c := false) ?e (JB_neI (a := medH [rAt r 0, rAt r (2 * t), rAt r (2 * t + 2 * m), rAt r (2 * t + 2 * m + 2 * l), 0, 1, 2]) (b := rAt r (2 * t + m)) ?_ (J_name h2))) (fun h => nomatch h) (fun _ => JS_nil rfl) ?_ (fun _ _ h => nomatch h)
        case e => rw [w3]; exact bne_self_eq_false _
        · exact J_callF (JL_cons (J_cat (J_name h3) (J_list (JL_cons J_int (JL_cons J_int (JL_cons J_int JL_nil))))) JL_nil) (calls_medH (ns := [rAt r 0, rAt r (2 * t), rAt r (2 * t + 2 * m), rAt r (2 * t + 2 * m + 2 * l), 0, 1, 2])) (at_high _) (fn_high _)
        · intro _ _ e
          cases e
          exact JS_nil ⟨rfl, h1⟩
    · rintro I' ρ' ⟨rfl, _⟩
      exact JS_ret J_bool rfl
end
end Mine
end -- M2b

section -- M3
open PySem PySem.W PyProof.Rows PySem.Calls
set_option maxRecDepth 100000
set_option maxHeartbeats 400000
namespace Mine
section
variable {C : Cx} {n : Nat} {I : Heap → Prop} {ρ : List (Str × AV)}
theorem cap_nil {env : Env} {sc : Scope} {cl : List (Str × Addr)} : ∀ y d, List.lookup y ([] : List (Str × AV)) = some d → List.lookup y ρ = some d ∧ Cap env sc cl y := fun _ _ h => nomatch h
theorem cap_cons {env : Env} {sc : Scope} {cl : List (Str × Addr)} {x : Str} {d : AV} {ρ' : List (Str × AV)} (h : List.lookup x ρ = some d) (hc : Cap env sc cl x) (k : ∀ y e, List.lookup y ρ' = some e → List.lookup y ρ = some e ∧ Cap env sc cl y) :
    ∀ y e, List.lookup y ((x, d) :: ρ') = some e → List.lookup y ρ = some e ∧ Cap env sc cl y := by
  intro y e he
  by_cases q : y = x
  · subst q
    rw [lookup_cons_eq] at he
    cases he
    exact ⟨h, hc⟩
  · rw [lookup_cons_ne q] at he
    exact k y e he
noncomputable def intP (q : Int → Bool) : AV → Bool
  | .int g => q g
  | _ => false
theorem filter_ints (q : Int → Bool) : ∀ ns : List Int, (ns.map AV.int).filter (intP q) = (ns.filter q).map AV.int
  | [] => rfl
  | a :: r => by
    rw [List.map_cons, List.filter_cons, List.filter_cons, filter_ints q r]
    cases h : q a <;> simp [intP, h]
theorem rangeD_ints (b : Nat) : rangeD b = ((List.range b).map fun (i : Nat) => (i : Int)).map AV.int := by simp [rangeD]

theorem fold_take {α β : Type} {f : β → α → β} {l : List α} {i : Nat} {x : α} {b : β} (h : l[i]? = some x) : (l.take (i + 1)).foldl f b = f ((l.take i).foldl f b) x := by
  rw [List.take_add_one, h, List.foldl_append]; rfl
theorem map_get {ns : List Int} {i : Nat} {d : AV} (h : (ns.map AV.int)[i]? = some d) : ∃ k, ns[i]? = some k ∧ d = .int k := by
  rw [List.getElem?_map] at h
  cases q : ns[i]? with
  | none => rw [q] at h; cases h
  | some k => rw [q] at h; exact ⟨k, rfl, (Option.some.inj h).symm⟩
theorem range_get {b j : Nat} {d : AV} (h : (rangeD b)[j]? = some d) : j < b ∧ d = .int j := by
  have hj : j < b := by
    have := (List.getElem?_eq_some_iff.mp h).1
    rwa [rangeD_length] at this
  rw [rangeD_get hj] at h
  exact ⟨hj, (Option.some.inj h).symm⟩
theorem ints27_get {j : Nat} (h : j < 27) : ints27[j]? = some (j : Int) := by simp [ints27, h]
theorem line_room {wt x : Int} (hw : wt = 9 ∨ wt = 3 ∨ wt = 1) (h0 : 0 ≤ x) (h1 : x < 27) (h : (x.fdiv wt).fmod 3 = 0) : x + 2 * wt < 27 := by
  rcases hw with rfl | rfl | rfl <;> rw [Int.fdiv_eq_ediv_of_nonneg _ (by decide), Int.fmod_eq_emod_of_nonneg _ (by decide)] at h <;> omega
theorem smallMul {a b : Int} (h : a.natAbs < 4) : IntMulOk a b := IntMulOk.of_left (by
  have : a = -3 ∨ a = -2 ∨ a = -1 ∨ a = 0 ∨ a = 1 ∨ a = 2 ∨ a = 3 := by omega
  rcases this with rfl | rfl | rfl | rfl | rfl | rfl | rfl <;> decide)

theorem calls_lies {r : List Int} (hr : r.length = 27) (h3 : ∀ i, 0 ≤ rAt r i ∧ rAt r i ≤ 2) : CallsB C (n + 2) I ρ (.ref 221) [.lst (r.map .int)] (.tup [.bool ((lies r).1 == 0), .bool (lies r).2]) := by
  refine' calls_pure (x := "rule") ?ho ?hcd ?hbind ?hkind ?hcn ?hco ?hgen ?hk ?hb
  case ho => (unfold HK fragOf; k_is)
  case hcd => (unfold HK fragOf; k_is)
  case hbind => exact fun _ => rfl
  case hkind => exact rfl
  case hcn => decide
  case hco => exact rfl
  case hgen => exact rfl
  case hk => exact rfl
  case hb =>
    intro L
    refine JS_assignT (J_tuple (JL_cons J_int (JL_cons J_bool JL_nil))) (JA_tup (JAs_cons (JA_name (.loc rfl)) (JAs_cons (JA_name (.loc rfl)) JAs_nil)) rfl) ?_
    refine JS_for (di := .tup ([9, 3, 1].map .int)) (J_tuple (JL_cons J_int (JL_cons J_int (JL_cons J_int JL_nil)))) Itr_tup
      (fun i I' ρ' => I' = (fun _ => True) ∧ List.lookup ("rule" : Str) ρ' = some (.lst (r.map .int)) ∧ List.lookup ("paying" : Str) ρ' = some (.int (([9, 3, 1].take i).foldl (weightF r) (0, true)).1) ∧ List.lookup ("middles" : Str) ρ' = some (.bool (([9, 3, 1].take i).foldl (weightF r) (0, true)).2)) ⟨rfl, rfl, rfl, rfl⟩ ?_ ?_
    · rintro i d I' ρ₁ hd ⟨rfl, hrule, hpay, hmid⟩
      obtain ⟨wt, hwt, rfl⟩ := map_get hd
      have hw : wt = 9 ∨ wt = 3 ∨ wt = 1 := by have := List.mem_of_getElem? hwt; simpa using this
      rw [fold_take hwt]
      generalize ([9, 3, 1].take i).foldl (weightF r) (0, true) = q at hpay hmid ⊢
      refine ⟨_, JA_name (.loc rfl), ?_⟩
      refine JS_for (di := .rng (27 : Nat)) (J_range J_int) (Itr_rng (by decide))
        (fun j I' ρ' => I' = (fun _ => True) ∧ List.lookup ("rule" : Str) ρ' = some (.lst (r.map .int)) ∧ List.lookup ("weight" : Str) ρ' = some (.int wt) ∧ List.lookup ("paying" : Str) ρ' = some (.int ((ints27.take j).foldl (lineF r wt) q).1) ∧ List.lookup ("middles" : Str) ρ' = some (.bool ((ints27.take j).foldl (lineF r wt) q).2)) ⟨rfl, hrule, rfl, hpay, hmid⟩ ?_ ?_
      · rintro j d I' ρ₂ hd ⟨rfl, hrule, hweight, hpay, hmid⟩
        obtain ⟨hj, rfl⟩ := range_get hd
        rw [fold_take (ints27_get hj)]
        generalize (ints27.take j).foldl (lineF r wt) q = q at hpay hmid ⊢
        refine ⟨_, JA_name (.loc rfl), ?_⟩
        refine JS_if (Mid := fun o => ∃ ρ', o = .next (fun _ => True) ρ' ∧ List.lookup ("rule" : Str) ρ' = some (.lst (r.map .int)) ∧ List.lookup ("weight" : Str) ρ' = some (.int wt) ∧ List.lookup ("paying" : Str) ρ' = some (.int (lineF r wt q j).1) ∧ List.lookup ("middles" : Str) ρ' = some (.bool (lineF r wt q j).2))
          (JB_eqI (J_mod (J_divK (J_name rfl) (J_name hweight) (by rcases hw with rfl | rfl | rfl <;> decide) (by rcases hw with rfl | rfl | rfl <;> decide)) J_int (by decide)) J_int) (fun h => ?_) (fun h => ?_) ?_ (fun _ _ ⟨_, h, _⟩ => nomatch h)
        · have h' : ((j : Int).fdiv wt).fmod 3 = 0 := by simpa using h
          have hroom := line_room hw (by omega) (by omega) h'
          have hpos : 1 ≤ wt := by omega
          have eL : lineF r wt q j = [0, 1, 2].foldl (wishF (rAt r j) (rAt r (j + wt)) (rAt r (j + 2 * wt))) q := by unfold lineF; rw [if_pos h]
          rw [eL]
          have ha := h3 j
          have hb := h3 (j + wt)
          have hc := h3 (j + 2 * wt)
          refine JS_assign (d := .lst ([rAt r j, rAt r (j + wt), rAt r (j + 2 * wt)].map .int)) ?_ (.loc rfl) ?_
          · exact J_list (JL_cons (J_rule (J_name hrule) (J_name rfl) (by omega) (by omega) (by omega)) (JL_cons (J_rule (J_name hrule) (J_add (J_name rfl) (J_name hweight)) (by omega) (by omega) (by omega))
              (JL_cons (J_rule (J_name hrule) (J_add (J_name rfl) (J_mul J_int (J_name hweight) mul2)) (by omega) (by omega) (by omega)) JL_nil)))
          generalize rAt r j = a at *
          generalize rAt r (j + wt) = b at *
          generalize rAt r (j + 2 * wt) = c at *
          refine JS_for (di := .rng (3 : Nat)) (J_range J_int) (Itr_rng (by decide))
            (fun k I' ρ' => I' = (fun _ => True) ∧ List.lookup ("rule" : Str) ρ' = some (.lst (r.map .int)) ∧ List.lookup ("weight" : Str) ρ' = some (.int wt) ∧ List.lookup ("line" : Str) ρ' = some (.lst ([a, b, c].map .int)) ∧ List.lookup ("paying" : Str) ρ' = some (.int (([0, 1, 2].take k).foldl (wishF a b c) q).1) ∧ List.lookup ("middles" : Str) ρ' = some (.bool (([0, 1, 2].take k).foldl (wishF a b c) q).2)) ⟨rfl, hrule, hweight, rfl, hpay, hmid⟩ ?_ ?_
          · rintro k d I' ρ₃ hd ⟨rfl, hrule, hweight, hline, hpay, hmid⟩
            obtain ⟨hk, rfl⟩ := range_get hd
            have hk' : ([0, 1, 2] : List Int)[k]? = some (k : Int) := by
              have : k = 0 ∨ k = 1 ∨ k = 2 := by omega
              rcases this with rfl | rfl | rfl <;> rfl
            rw [fold_take hk']
            generalize ([0, 1, 2].take k).foldl (wishF a b c) q = q at hpay hmid ⊢
            refine ⟨_, JA_name (.cell rfl rfl), ?_⟩
            have ht3 : ([a, b, c].map AV.int)[(k : Int).toNat]? = some (.int (told3 a b c k)) := getD_at (by rw [Int.toNat_natCast]; exact hk)
            refine JS_assign (d := .int (told3 a b c k)) (J_item (J_name hline) (J_name rfl) (by omega) (by omega) ht3) (.cell rfl rfl) ?_
            have hT : 0 ≤ told3 a b c k ∧ told3 a b c k ≤ 2 := by
              have : k = 0 ∨ k = 1 ∨ k = 2 := by omega
              rcases this with rfl | rfl | rfl
              · exact ha
              · exact hb
              · exact hc
            generalize hTe : told3 a b c k = T at *
            refine JS_augAdd (b := pay3 a b c k) (.loc rfl) hpay ?_ ?_
            · refine J_cast (d := .int (((([a, b, c].map AV.int).filter (intP fun g => decide (0 < ((k : Int) - T) * (g - T)))).map id).length : Nat)) ?_ ?_
              · rw [List.map_id, filter_ints, List.length_map]
                unfold pay3
                rw [hTe]
              · refine J_callB (JL_cons (J_comp (x := "got") (p := intP fun g => decide (0 < ((k : Int) - T) * (g - T))) (g := id) (ρ' := [("told", .int T), ("wish", .int k)]) (J_name hline) Itr_lst (Nat.le_of_ble_eq_true rfl)
                  (cap_cons rfl ⟨.inl rfl, .inl rfl, rfl, rfl⟩ (cap_cons rfl ⟨.inl rfl, .inl rfl, rfl, rfl⟩ cap_nil)) ?_) JL_nil) (calls_len ?_) (no_len _) bt_len
                · intro d hd c' X'
                  obtain ⟨g, hg, rfl⟩ := List.mem_map.mp hd
                  have hg2 : 0 ≤ g ∧ g ≤ 2 := by
                    simp only [List.mem_cons, List.not_mem_nil, or_false] at hg
                    rcases hg with rfl | rfl | rfl
                    · exact ha
                    · exact hb
                    · exact hc
                  exact ⟨JT_one (JB_gtI (J_mul (J_sub (J_name rfl) (J_name rfl)) (J_sub (J_name rfl) (J_name rfl)) (smallMul (by omega))) J_int), fun _ => J_name rfl⟩
                · have h1 : (((([a, b, c].map AV.int).filter (intP fun g => decide (0 < ((k : Int) - T) * (g - T))))).map id).length ≤ 3 := by
                    rw [List.length_map]; exact List.length_filter_le _ _
                  omega
            · refine JS_assign (d := .bool (wishF a b c q k).2) ?_ (.loc rfl) ?_
              · refine J_cast (d := .bool (q.2 && (medL [(k : Int), a, c] == T))) (by unfold wishF mid3; rw [hTe]) ?_
                exact J_and (J_name hmid) fun _ => J_eqI (J_callF (JL_cons (J_list (JL_cons (J_name rfl) (JL_cons (J_item (J_name hline) J_int (by decide) (by decide) rfl) (JL_cons (J_item (J_name hline) J_int (by decide) (by decide) rfl) JL_nil)))) JL_nil) (calls_medL (ns := [(k : Int), a, c])) (at_low _) (fn_low _)) (J_name rfl)
              · exact JS_nil ⟨rfl, hrule, hweight, hline, rfl, rfl⟩
          · rintro I' ρ₃ ⟨rfl, hrule, hweight, hline, hpay, hmid⟩
            exact JS_nil ⟨_, rfl, hrule, hweight, hpay, hmid⟩
        · have eL : lineF r wt q j = q := by unfold lineF; rw [h]; rfl
          rw [eL]
          exact JS_nil ⟨_, rfl, hrule, hweight, hpay, hmid⟩
        · rintro I' ρ₃ ⟨ρ', e, h⟩
          cases e
          exact JS_nil ⟨rfl, h⟩
      · rintro I' ρ₂ ⟨rfl, hrule, hweight, hpay, hmid⟩
        exact JS_nil ⟨rfl, hrule, hpay, hmid⟩
    · rintro I' ρ₁ ⟨rfl, hrule, hpay, hmid⟩
      exact JS_ret (J_tuple (JL_cons (J_eqI (J_name hpay) J_int) (JL_cons (J_name hmid) JL_nil))) rfl
end
end Mine
end -- M3

section -- PR1
namespace Mine
noncomputable def lmin : List Int → Int
  | [] => 0
  | [a] => a
  | a :: b :: l => min a (lmin (b :: l))
noncomputable def lmax : List Int → Int
  | [] => 0
  | [a] => a
  | a :: b :: l => max a (lmax (b :: l))
theorem lmin_mem : ∀ {l : List Int}, l ≠ [] → lmin l ∈ l
  | [], h => absurd rfl h
  | [a], _ => by simp [lmin]
  | a :: b :: l, _ => by
    unfold lmin
    have ih := lmin_mem (l := b :: l) (by simp)
    by_cases h : a ≤ lmin (b :: l)
    · rw [Int.min_eq_left h]; exact .head _
    · rw [Int.min_eq_right (by omega)]; exact .tail _ ih
theorem lmin_le : ∀ {l : List Int} {x : Int}, x ∈ l → lmin l ≤ x
  | [a], x, h => by simp at h; subst h; simp [lmin]
  | a :: b :: l, x, h => by
    unfold lmin
    rcases List.mem_cons.mp h with rfl | h
    · exact Int.min_le_left ..
    · exact Int.le_trans (Int.min_le_right ..) (lmin_le h)
theorem lmax_mem : ∀ {l : List Int}, l ≠ [] → lmax l ∈ l
  | [], h => absurd rfl h
  | [a], _ => by simp [lmax]
  | a :: b :: l, _ => by
    unfold lmax
    have ih := lmax_mem (l := b :: l) (by simp)
    by_cases h : a ≤ lmax (b :: l)
    · rw [Int.max_eq_right h]; exact .tail _ ih
    · rw [Int.max_eq_left (by omega)]; exact .head _
theorem le_lmax : ∀ {l : List Int} {x : Int}, x ∈ l → x ≤ lmax l
  | [a], x, h => by simp at h; subst h; simp [lmax]
  | a :: b :: l, x, h => by
    unfold lmax
    rcases List.mem_cons.mp h with rfl | h
    · exact Int.le_max_left ..
    · exact Int.le_trans (le_lmax h) (Int.le_max_right ..)
/-- the six values that a line may stand for in the row x -/
noncomputable def rowOf (x : Int) : List Int := [x.fdiv 9, (x.fdiv 3).fmod 3, x.fmod 3, 0, 1, 2]
noncomputable def rowAt (x : Int) (k : Nat) : Int := (rowOf x).getD k 0
/-- what the by-law of the clauses cs says in the row x -/
noncomputable def readAt (cs : List (List Nat)) (x : Int) : Int := lmax (0 :: (cs.filter fun c => !c.isEmpty).map fun c => lmin (c.map (rowAt x)))
noncomputable def readF (cs : List (List Nat)) : List Int := ints27.map (readAt cs)
end Mine
end -- PR1

section -- M4
open PySem PySem.W PyProof.Rows PySem.Calls
set_option maxRecDepth 100000
set_option maxHeartbeats 400000
namespace Mine
/-- the six letters -/
noncomputable def lets : List Str := ["a", "b", "c", "0", "1", "2"]
noncomputable def lett (i : Nat) : Str := lets.getD i "a"
theorem lett_at {i : Nat} (h : i < 6) : ∃ rest, Builtin.Str.occurrences ("abc012" : Str) (lett i) 0 ("abc012" : Str).length 1 = i :: rest := by
  have : i = 0 ∨ i = 1 ∨ i = 2 ∨ i = 3 ∨ i = 4 ∨ i = 5 := by omega
  rcases this with rfl | rfl | rfl | rfl | rfl | rfl <;> exact ⟨[], by decide +kernel⟩
theorem lett_ok {i : Nat} (h : i < 6) : PyData.strOk (lett i) = true := by
  have : i = 0 ∨ i = 1 ∨ i = 2 ∨ i = 3 ∨ i = 4 ∨ i = 5 := by omega
  rcases this with rfl | rfl | rfl | rfl | rfl | rfl <;> decide +kernel
/-- a clause as data -/
noncomputable abbrev clA (c : List Nat) : AV := .lst (c.map fun i => .str (lett i))
theorem clA_flat : ∀ c : List Nat, (clA c).flat = true := by
  intro c
  show AV.flats _ = true
  induction c with
  | nil => rfl
  | cons i c ih => rw [List.map_cons]; unfold AV.flats; rw [ih]; rfl
theorem clA_py (c : List Nat) : (clA c).py = .list (c.map fun i => .str (lett i)) := by
  show PyData.list (AV.pys _) = _
  congr 1
  induction c with
  | nil => rfl
  | cons i c ih => rw [List.map_cons, List.map_cons]; unfold AV.pys; rw [ih]; rfl
theorem clA_shaped {c : List Nat} (h : ∀ i ∈ c, i < 6) : SeqAt.shaped (clA c).py = true := by
  rw [clA_py]
  have key : PyData.canLayAll0 (c.map fun i => PyData.str (lett i)) = true ∧ PyData.depthAll (c.map fun i => PyData.str (lett i)) ≤ 1 := by
    induction c with
    | nil => simp [PyData.canLayAll0, PyData.depthAll]
    | cons i c ih =>
      have h1 := lett_ok (h i (.head _))
      have h2 := ih fun j m => h j (.tail _ m)
      simp only [List.map_cons, PyData.canLayAll0, PyData.depthAll, PyData.canLay0, PyData.depth, h1, h2.1, Bool.and_self, true_and]
      have := h2.2
      omega
  unfold SeqAt.shaped
  simp only [PyData.canLay0, PyData.depth, key.1, Bool.true_and]
  have := key.2
  exact decide_eq_true (by omega)
noncomputable def nonE : AV → Bool
  | .lst [] => false
  | _ => true
noncomputable def letI' : AV → AV
  | .str x => (match Builtin.Str.occurrences ("abc012" : Str) x 0 ("abc012" : Str).length 1 with | i :: _ => .int i | [] => .none)
  | _ => .none
noncomputable def clI : AV → AV
  | .lst l => .lst (l.map letI')
  | d => d
theorem letI_eq {i : Nat} (h : i < 6) : letI' (.str (lett i)) = .int (i : Int) := by
  obtain ⟨rest, e⟩ := lett_at h
  unfold letI'
  simp only [e]
noncomputable abbrev clN (c : List Nat) : AV := .lst (c.map fun (i : Nat) => AV.int (i : Int))
theorem clI_eq {c : List Nat} (h : ∀ i ∈ c, i < 6) : clI (clA c) = clN c := by
  unfold clI clA clN
  simp only [List.map_map]
  congr 1
  apply List.map_congr_left
  intro i hi
  exact letI_eq (h i hi)
theorem nonE_eq (c : List Nat) : nonE (clA c) = !c.isEmpty := by cases c <;> rfl
theorem filter_true {l : List AV} : l.filter (fun _ => true) = l := by simp
theorem cls_eq : ∀ {cs : List (List Nat)}, (∀ c ∈ cs, ∀ i ∈ c, i < 6) → ((cs.map clA).filter nonE).map clI = (cs.filter fun c => !c.isEmpty).map clN
  | [], _ => rfl
  | c :: cs, h => by
    have ih := cls_eq fun c' m => h c' (.tail _ m)
    rw [List.map_cons, List.filter_cons, List.filter_cons, nonE_eq]
    cases c.isEmpty with
    | true => simpa using ih
    | false => simpa [clI_eq (h c (.head _))] using ih
noncomputable def minD (x : Int) : AV → AV
  | .lst l => .int (lmin (l.map fun d => match d with | .int k => rowAt x k.toNat | _ => 0))
  | _ => .none
theorem minD_eq (x : Int) (c : List Nat) : minD x (clN c) = .int (lmin (c.map (rowAt x))) := by
  unfold minD clN
  simp only [List.map_map]
  congr 2
noncomputable def rowD (x : Int) : AV → AV
  | .int k => .int (rowAt x k.toNat)
  | _ => .none
section
variable {C : Cx} {n : Nat} {I : Heap → Prop} {ρ : List (Str × AV)}
theorem calls_read {cs : List (List Nat)} (h6 : ∀ c ∈ cs, ∀ i ∈ c, i < 6) (hz : cs.length ≤ 100) (hzz : ∀ c ∈ cs, c.length ≤ 100) : CallsB C (n + 2) I ρ (.ref 216) [.lst (cs.map clA)] (.lst ((readF cs).map .int)) := by
  refine' calls_pure (x := "clauses") ?ho ?hcd ?hbind ?hkind ?hcn ?hco ?hgen ?hk ?hb
  case ho => (unfold HK fragOf; k_is)
  case hcd => (unfold HK fragOf; k_is)
  case hbind => exact fun _ => rfl
  case hkind => exact rfl
  case hcn => decide
  case hco => exact rfl
  case hgen => exact rfl
  case hk => exact rfl
  case hb =>
    intro L
    refine JS_assignC (x := "clause") (di := .lst (cs.map clA)) (ds := cs.map clA) (p := nonE) (g := clI) (ρ' := []) (J_name rfl) Itr_lst (by rw [List.length_map]; omega) cap_nil ?_ (.loc rfl) ?_
    · intro d hd c' X'
      obtain ⟨c, hc, rfl⟩ := List.mem_map.mp hd
      have h6c := h6 c hc
      refine ⟨JT_one (JB_cast ?_ (JB_cmp (J_name rfl) (J_list JL_nil) (cmp_ne (clA_flat c) rfl (clA_shaped h6c) (by decide +kernel)) rfl)), fun _ => ?_⟩
      · rw [clA_py]
        cases c with
        | nil => rfl
        | cons i c => rfl
      · rw [clI_eq h6c]
        refine J_cast (d := .lst (((c.map fun i => AV.str (lett i)).filter fun _ => true).map letI')) ?_ (J_comp (x := "value") (p := fun _ => true) (g := letI') (ρ' := []) (J_name rfl) Itr_lst (by rw [List.length_map]; have := hzz c hc; omega) cap_nil ?_)
        · rw [filter_true, List.map_map]
          congr 1
          apply List.map_congr_left
          exact fun i hi => letI_eq (h6c i hi)
        · intro d hd c'' X''
          obtain ⟨i, hi, rfl⟩ := List.mem_map.mp hd
          obtain ⟨rest, e⟩ := lett_at (h6c i hi)
          rw [letI_eq (h6c i hi)]
          exact ⟨JT_nil, fun _ => J_meth1 J_str (JL_cons (J_name rfl) JL_nil) m_index (c_index e)⟩
    · rw [cls_eq h6]
      have hz2 : (cs.filter fun c => !c.isEmpty).length ≤ 100 := Nat.le_trans (List.length_filter_le _ _) hz
      have h62 : ∀ c ∈ cs.filter fun c => !c.isEmpty, (∀ i ∈ c, i < 6) ∧ c ≠ [] ∧ c.length ≤ 100 := by
        intro c hc
        obtain ⟨h1, h2⟩ := List.mem_filter.mp hc
        exact ⟨h6 c h1, by intro q; subst q; simp at h2, hzz c h1⟩
      have eF : (readF cs).map AV.int = ints27.map fun x => AV.int (lmax (0 :: (cs.filter fun c => !c.isEmpty).map fun c => lmin (c.map (rowAt x)))) := by
        unfold readF; rw [List.map_map]; rfl
      rw [eF]
      generalize (cs.filter fun c => !c.isEmpty) = ks at *
      refine JS_own (.loc rfl) fun a haF => ?_
      refine JS_for (di := .rng (27 : Nat)) (J_range J_int) (Itr_rng (by decide))
        (fun j I' ρ' => I' = OwnI (a :: (callC C [] _ _ L 216 _).X) a ((ints27.take j).map fun x => AV.int (lmax (0 :: ks.map fun c => lmin (c.map (rowAt x))))) ∧ List.lookup ("clauses" : Str) ρ' = some (.lst (ks.map clN)) ∧ List.lookup ("said" : Str) ρ' = some (.at a)) ⟨rfl, rfl, rfl⟩ ?_ ?_
      · rintro j d I' ρ₁ hd ⟨rfl, hcl, hsaid⟩
        obtain ⟨hj, rfl⟩ := range_get hd
        refine ⟨_, JA_name (.loc rfl), ?_⟩
        refine JS_assign (d := .lst ((rowOf j).map .int)) ?_ (.cell rfl rfl) ?_
        · exact J_list (JL_cons (J_divK (J_name rfl) J_int (by decide) (by decide)) (JL_cons (J_mod (J_divK (J_name rfl) J_int (by decide) (by decide)) J_int (by decide)) (JL_cons (J_mod (J_name rfl) J_int (by decide)) (JL_cons J_int (JL_cons J_int (JL_cons J_int JL_nil))))))
        · refine JS_append (a := a) (d := .int (lmax (0 :: ks.map fun c => lmin (c.map (rowAt j))))) hsaid (.head _) haF ?_ ?_ ?_
          · refine J_callB (JL_cons (J_cast (d := .lst ([.int 0] ++ ((ks.map clN).filter fun _ => true).map (minD j))) (d' := .lst ((0 :: ks.map fun c => lmin (c.map (rowAt j))).map .int)) ?_ (J_cat (J_list (JL_cons J_int JL_nil)) (J_comp (x := "clause") (p := fun _ => true) (g := minD j) (ρ' := [("row", .lst ((rowOf j).map .int))]) (J_name hcl) Itr_lst (by rw [List.length_map]; omega) (cap_cons rfl ⟨.inl rfl, .inl rfl, rfl, rfl⟩ cap_nil) ?_) ?_)) JL_nil) (calls_max (lmax_mem (by simp)) fun x hx => le_lmax hx) (no_max _) bt_max
            · rw [filter_true, List.map_map, List.map_cons, List.map_map, List.singleton_append]
              congr 2
              apply List.map_congr_left
              intro c _
              exact minD_eq j c
            · intro d hd c' X'
              obtain ⟨c, hc, rfl⟩ := List.mem_map.mp hd
              obtain ⟨q6, qne, qz⟩ := h62 c hc
              refine ⟨JT_nil, fun _ => ?_⟩
              rw [minD_eq]
              refine J_callB (JL_cons (J_cast (d := .lst (((c.map fun (i : Nat) => AV.int (i : Int)).filter fun _ => true).map (rowD j))) (d' := .lst ((c.map (rowAt j)).map .int)) ?_ (J_comp (x := "k") (p := fun _ => true) (g := rowD j) (ρ' := [("row", .lst ((rowOf j).map .int))]) (J_name rfl) Itr_lst (by rw [List.length_map]; omega) (cap_cons rfl ⟨.inl rfl, .inl rfl, rfl, rfl⟩ cap_nil) ?_)) JL_nil) (calls_min (lmin_mem (by simpa using qne)) fun x hx => lmin_le hx) (no_min _) bt_min
              · rw [filter_true, List.map_map, List.map_map]
                congr 1
              · intro d hd c'' X''
                obtain ⟨i, hi, rfl⟩ := List.mem_map.mp hd
                refine ⟨JT_nil, fun _ => ?_⟩
                have hi6 := q6 i hi
                refine J_item (J_name rfl) (J_name rfl) (by omega) (by omega) ?_
                show _ = some (AV.int (rowAt j (i : Int).toNat))
                rw [Int.toNat_natCast]
                exact getD_at hi6
            · rw [List.length_map, filter_true, List.length_map]
              show 1 + _ ≤ 1000
              omega
          · rw [List.length_map]
            exact Nat.le_trans (List.length_take_le ..) (by omega)
          · refine JS_nil ⟨?_, hcl, hsaid⟩
            rw [List.take_add_one, ints27_get hj]
            simp
      · rintro I' ρ₁ ⟨rfl, hcl, hsaid⟩
        refine JS_ret (J_name hsaid) ⟨rfl, fun h hI => ?_⟩
        rw [rangeD_length] at hI
        exact hI
end
end Mine
end -- M4

section -- H4
open PySem PySem.W PyProof.Rows PySem.Calls
set_option maxRecDepth 100000
set_option maxHeartbeats 400000
namespace Mine
/-- a line -/
noncomputable abbrev Ln := Str × Str
noncomputable abbrev lineA (kv : Ln) : AV := .tup [.str kv.1, .str kv.2]
/-- the lines of a name -/
noncomputable def linesOf (ls : List Ln) (x : Str) : List Ln := ls.filter fun kv => Txt.lower kv.1 == x
/-- short names -/
noncomputable def Short (ls : List Ln) : Prop := ls.length ≤ 100 ∧ ∀ kv ∈ ls, kv.1 ∈ pins ∧ kv.2 ∈ vals
theorem pins_len : ∀ x ∈ pins, x.length ≤ 5592405 := by decide +kernel
noncomputable def pLow (x : Str) : AV → Bool
  | .tup (.str a :: _) => Txt.lower a == x
  | _ => false
noncomputable def sndD : AV → AV
  | .tup [_, b] => b
  | d => d
theorem get_all_eq (ls : List Ln) (x : Str) : ((ls.map lineA).filter (pLow x)).map sndD = (linesOf ls x).map fun kv => .str kv.2 := by
  unfold linesOf
  induction ls with
  | nil => rfl
  | cons kv ls ih =>
    rw [List.map_cons, List.filter_cons, List.filter_cons]
    have : pLow x (lineA kv) = (Txt.lower kv.1 == x) := rfl
    rw [this]
    cases (Txt.lower kv.1 == x) with
    | true => simp only [if_true, List.map_cons, ih]; rfl
    | false => simpa using ih
section
variable {C : Cx} {n : Nat} {I : Heap → Prop} {ρ : List (Str × AV)}
theorem notW {a : Addr} {F : List Addr} (h : a ∉ F) : a ∉ F ++ [] := fun m => (List.mem_append.mp m).elim h fun q => nomatch q
theorem calls_get_all {t dx l : Addr} {ls : List Ln} {x : Str} (hI : ∀ h, I h → Tab C.X t dx l (ls.map lineA) h) (hs : Short ls) (hx : x.length ≤ 5592405) (hp : Txt.lower x ∈ pins) :
    CallsB C (n + 2) I ρ (.ref 114) [.at t, .str x] (.lst ((linesOf ls (Txt.lower x)).map fun kv => .str kv.2)) := by
  refine' calls_tab (xs := ["self", "name"]) (fs := [.at t, .str x]) hI ?ho ?hcd ?hbind rfl ?hkind ?hnd ?hcn ?hco ?hgen ?hk ?hb
  case ho => (unfold HK fragOf; k_is)
  case hcd => (unfold HK fragOf; k_is)
  case hbind =>
    intro s vs _ r
    cases r with
    | cons a r =>
    cases r with
    | cons b r =>
    cases r
    exact ⟨_, .cons a (.cons b .nil), BindsTo.of_eq rfl⟩
  case hkind => exact rfl
  case hnd => decide
  case hcn => decide
  case hco => exact rfl
  case hgen => exact rfl
  case hk => exact rfl
  case hb =>
    intro L ft fd fl
    refine JS_assign (d := .str (Txt.lower x)) (J_conv (b := true) (fun h T => T) rfl (J_lower (J_name rfl) hx) hp) (.cell rfl rfl) ?_
    refine JS_ret (J_cast (get_all_eq ls (Txt.lower x) ▸ rfl) (J_comp (x := "kv") (p := pLow (Txt.lower x)) (g := sndD) (ρ' := [("name", .str (Txt.lower x))]) (J_hdrs (fun h T => T) rfl) (Itr_tab (fun h T => T) (fun a m => m) ?_) ?_ (cap_cons rfl ⟨.inl rfl, .inl rfl, rfl, rfl⟩ cap_nil) ?_)) rfl
    · exact notW fl
    · rw [List.length_map]; have := hs.1; omega
    · intro d hd c' X'
      obtain ⟨kv, hkv, rfl⟩ := List.mem_map.mp hd
      refine ⟨JT_one (JB_cmp (J_lower (J_itemT (J_name rfl) J_int (by decide) (by decide) rfl) (pins_len _ (hs.2 kv hkv).1)) (J_name rfl) ?_ rfl), fun _ => J_itemT (J_name rfl) J_int (by decide) (by decide) rfl⟩
      intro s x y Q E P r₁ r₂ hQ
      cases r₁; cases r₂
      exact eq_str (hQ _ _ (keeps_refl s) (.bool _))
end
end Mine
end -- H4

section -- H5
open PySem PySem.W PyProof.Rows PySem.Calls
set_option maxRecDepth 100000
set_option maxHeartbeats 400000
namespace Mine
/-- what get gives -/
noncomputable def getD' (ls : List Ln) (x : Str) : AV := match linesOf ls x with | [] => .none | kv :: _ => .str kv.2
section
variable {C : Cx} {n : Nat} {I : Heap → Prop} {ρ : List (Str × AV)}
/-- o.m(args), a method of a Headers -/
theorem J_methT {X : List Addr} {t dx l f : Addr} {ds es : List AV} {d : AV} {o m : Str} {op ap pos : Pos} {e : Expr} {rest : List Expr} (hI : ∀ h, I h → Tab X t dx l ds h) (ho : ρ.lookup o = some (.at t)) (ha : JL C n I ρ (e :: rest) es) (hc : CallsB C n I ρ (.ref f) (.at t :: es) d)
    (hf : findIn (HK C.w.params) (.ref 175) m = some (some (.ref f))) (hn : isFn (HK C.w.params) (.ref f) = true) (hkp : keepIn (HK C.w.params) (.ref f) = true)
    (hm : ("_headers" == m) = false := by decide) (hd' : (o == ("__debug__" : Str)) = false := by decide) (hl : (ap.endLine == pos.line) = true := by rfl) (h2 : W.isStarred e = false := by rfl) (h3 : rest.any W.isStarred = false := by rfl) (h4 : (e :: rest).length < 20 := by decide) :
    J C n I ρ (.Call (.Attribute (.Name o op) m ap) (e :: rest) [] pos) d := by
  refine ⟨fun s P Q E hQ => ?_⟩
  refine ev_meth ((J_name ho hd').run s P _ _ fun v s₁ k₁ r₁ => ?_) (base_of rfl) (form0 (args := e :: rest) (by rw [List.any_cons, h2, h3]; rfl) h4) hl
  cases r₁
  have P₁ := P.keeps k₁
  refine gm_tab P₁ (hI _ P₁.inv) hf hn hm ?_
  refine callWith_K P₁.K hkp (ha.run pos s₁ P₁ _ _ fun vs s₂ k₂ r₂ => ⟨(P₁.keeps k₂).K, ?_⟩) (star_cons h2) (back_star h3)
  exact hc.run s₂ _ _ _ (P₁.keeps k₂) (.cons (.at t) r₂) fun v s₃ k₃ r₃ => hQ v s₃ (keeps_trans k₁ (keeps_trans k₂ k₃)) r₃
theorem J_methT0 {X : List Addr} {t dx l f : Addr} {ds : List AV} {d : AV} {o m : Str} {op ap pos : Pos} (hI : ∀ h, I h → Tab X t dx l ds h) (ho : ρ.lookup o = some (.at t)) (hc : CallsB C n I ρ (.ref f) [.at t] d)
    (hf : findIn (HK C.w.params) (.ref 175) m = some (some (.ref f))) (hn : isFn (HK C.w.params) (.ref f) = true) (hkp : keepIn (HK C.w.params) (.ref f) = true)
    (hm : ("_headers" == m) = false := by decide) (hd' : (o == ("__debug__" : Str)) = false := by decide) (hl : (ap.endLine == pos.line) = true := by rfl) :
    J C n I ρ (.Call (.Attribute (.Name o op) m ap) [] [] pos) d := by
  refine ⟨fun s P Q E hQ => ?_⟩
  refine ev_meth ((J_name ho hd').run s P _ _ fun v s₁ k₁ r₁ => ?_) (base_of rfl) (form0 (args := []) rfl (by decide)) hl
  cases r₁
  have P₁ := P.keeps k₁
  refine gm_tab P₁ (hI _ P₁.inv) hf hn hm ?_
  refine callWith_K0 P₁.K hkp ?_
  exact hc.run s₁ _ _ _ P₁ (.cons (.at t) .nil) fun v s₃ k₃ r₃ => hQ v s₃ (keeps_trans k₁ k₃) r₃
theorem linesOf_snoc {ls : List Ln} {x : Str} {i : Nat} {kv : Ln} (h : ls[i]? = some kv) : linesOf (ls.take (i + 1)) x = linesOf (ls.take i) x ++ (if Txt.lower kv.1 == x then [kv] else []) := by
  unfold linesOf
  rw [List.take_add_one, h]
  simp only [Option.toList_some, List.filter_append]
  congr 1
  cases q : Txt.lower kv.1 == x <;> simp [q]
theorem linesOf_first {ls : List Ln} {x : Str} {i : Nat} {kv : Ln} (h : ls[i]? = some kv) (h0 : linesOf (ls.take i) x = []) (hx : (Txt.lower kv.1 == x) = true) : getD' ls x = .str kv.2 := by
  have e : ls = ls.take (i + 1) ++ ls.drop (i + 1) := (List.take_append_drop ..).symm
  have : linesOf ls x = kv :: linesOf (ls.drop (i + 1)) x := by
    have e2 : linesOf ls x = linesOf (ls.take (i + 1)) x ++ linesOf (ls.drop (i + 1)) x := by
      unfold linesOf; rw [← List.filter_append, List.take_append_drop]
    rw [e2, linesOf_snoc h, h0, hx]
    rfl
  unfold getD'
  rw [this]
theorem calls_get {t dx l : Addr} {ls : List Ln} {x : Str} (hI : ∀ h, I h → Tab C.X t dx l (ls.map lineA) h) (hs : Short ls) (hx : x.length ≤ 5592405) (hp : Txt.lower x ∈ pins) :
    CallsB C (n + 2) I ρ (.ref 122) [.at t, .str x] (getD' ls (Txt.lower x)) := by
  refine' calls_tab (xs := ["self", "name", "default"]) (fs := [.at t, .str x, .none]) hI ?ho ?hcd ?hbind rfl ?hkind ?hnd ?hcn ?hco ?hgen ?hk ?hb
  case ho => (unfold HK fragOf; k_is)
  case hcd => (unfold HK fragOf; k_is)
  case hbind =>
    intro s vs hK r
    cases r with
    | cons a r =>
    cases r with
    | cons b r =>
    cases r
    refine ⟨_, .cons a (.cons b (.cons .none .nil)), ?_⟩
    refine' binds_K hK rfl ?o ?s rfl ?h2
    case o => (unfold HK fragOf; k_is)
    case s => exact rfl
    case h2 => exact rfl
  case hkind => exact rfl
  case hnd => decide
  case hcn => decide
  case hco => exact rfl
  case hgen => exact rfl
  case hk => exact rfl
  case hb =>
    intro L ft fd fl
    refine JS_assign (d := .str (Txt.lower x)) (J_conv (b := true) (fun h T => T) rfl (J_lower (J_name rfl) hx) hp) (.loc rfl) ?_
    refine JS_for (di := .at l) (J_hdrs (fun h T => T) rfl) (Itr_tab (fun h T => T) (fun a m => m) (notW fl))
      (fun i I' ρ' => (∀ h, I' h → Tab (frA _ ++ C.X) t dx l (ls.map lineA) h) ∧ List.lookup ("name" : Str) ρ' = some (.str (Txt.lower x)) ∧ List.lookup ("default" : Str) ρ' = some .none ∧ linesOf (ls.take i) (Txt.lower x) = []) ⟨fun h T => T, rfl, rfl, rfl⟩ ?_ ?_
    · rintro i d I' ρ' hd ⟨hT, hn, hdf, hl0⟩
      obtain ⟨kv, hkv, rfl⟩ : ∃ kv, ls[i]? = some kv ∧ d = lineA kv := by
        rw [List.getElem?_map] at hd
        cases q : ls[i]? with
        | none => rw [q] at hd; cases hd
        | some kv => rw [q] at hd; exact ⟨kv, rfl, (Option.some.inj hd).symm⟩
      refine ⟨_, JA_tup (JAs_cons (JA_name (.loc rfl)) (JAs_cons (JA_name (.loc rfl)) JAs_nil)) rfl, ?_⟩
      have hm : kv ∈ ls := List.mem_of_getElem? hkv
      have hn' : List.lookup ("name" : Str) (("v", AV.str kv.2) :: ("k", AV.str kv.1) :: ρ') = some (.str (Txt.lower x)) := hn
      refine JS_if (Mid := fun o => match o with | .next I'' ρ'' => (∀ h, I'' h → Tab (frA _ ++ C.X) t dx l (ls.map lineA) h) ∧ List.lookup ("name" : Str) ρ'' = some (.str (Txt.lower x)) ∧ List.lookup ("default" : Str) ρ'' = some .none ∧ linesOf (ls.take (i + 1)) (Txt.lower x) = [] | .ret _ e => e = getD' ls (Txt.lower x))
        (JB_eqS (J_lower (J_name rfl) (pins_len _ (hs.2 kv hm).1)) (J_name hn')) (fun q => ?_) (fun q => ?_) (fun I'' ρ'' h => JS_nil h) (fun I'' d h => h)
      · exact JS_ret (J_name rfl) (linesOf_first hkv hl0 q).symm
      · refine JS_nil ⟨hT, hn, hdf, ?_⟩
        rw [linesOf_snoc hkv, hl0, q]; rfl
    · rintro I' ρ' ⟨hT, hn, hdf, hl0⟩
      rw [List.length_map, List.take_length] at hl0
      refine JS_ret (J_name hdf) ?_
      show AV.none = getD' ls (Txt.lower x)
      unfold getD'; rw [hl0]
/-- a slice of a list -/
theorem slice_lst {l : Addr} {vs us : List Value} {ds : List AV} {m : Nat} {slice : Expr} {v : Expr} {vl vu : Value} {lo hi : Option Int} {s : Shared} {Q : Value → Shared → Prop} {E : Value → Shared → Prop} (P : Pre C n I ρ s.heap) (ea : s.heap.get? l = some (lstO vs m)) (hz : vs.length ≤ 1000) (pl : IsPart vl lo) (pu : IsPart vu hi)
    (hp : slicePick vs.toArray lo hi none = us.toArray) (ra : RdAll C.X s.heap us ds) (hs : ∀ a b, subscripted slice false (.ref a) (.ref b) = operate [.ref b, .ref a] (getItem (.ref a) (.ref b))) (hQ : ∀ v s', Keeps s s' → Rd C.X s'.heap v (.lst ds) → Q v s') :
    wpAny (model PR C.w) C.A (subscriptTail v slice (.ref l) (.ref s.heap.objs.size)) Q E { s with heap := s.heap.push { cls := .type "slice", data := .fields #[vl, vu, .none] } } := by
  have hL : s.heap.IsList l vs.toArray := ⟨_, ea, rfl, _, rfl⟩
  refine tail_any (hL.push _).typeIs slot_list_getitem.lookup (wpAny_getItem_list_slice (hL.push _) (Heap.IsSliceOf.new ..) pl pu .none (by simp) ?_ ?_) (hs _ _)
  · have kp : Kp s.heap ((s.heap.push { cls := .type "slice", data := .fields #[vl, vu, .none] }).push { cls := .type "list", data := .seq (slicePick vs.toArray lo hi none) }) := (Kp.push _).trans (Kp.push _)
    refine hQ _ _ (keeps_h' s kp) (.lst (vs := us) (n := 0) ?_ ?_ (ra.mono kp.but))
    · rw [Heap.size_push]
      refine P.fresh ?_
      cases q : s.heap.get? (s.heap.objs.size + 1) with
      | none => rfl
      | some o => exact absurd (Heap.lt_size q) (Nat.not_lt.mpr (Nat.le_succ _))
    · rw [hp]
      exact Heap.get?_push_size _ rfl
  · rw [List.size_toArray]; exact Nat.le_trans hz (by decide)
/-- v[:] of a table's list -/
theorem J_sliceT {t dx l : Addr} {ds : List AV} {v : Expr} {p pos : Pos} (hI : ∀ h, I h → Tab C.X t dx l ds h) (hv : J C n I ρ v (.at l)) (hz : ds.length ≤ 1000) :
    J C n I ρ (.Subscript v (.Slice none none none p) pos) (.lst ds) := by
  refine ⟨fun s P Q E hQ => ?_⟩
  refine Subscript_ (hv.run s P _ _ fun x s₁ k₁ r₁ => wpAny_Slice (evalPart_none_step (evalPart_none_step (evalPart_none_step ?_))))
  cases r₁
  have P₁ := P.keeps k₁
  obtain ⟨vs, m, ea, ra⟩ := (hI _ P₁.inv).li
  exact slice_lst P₁ ea (by rw [ra.length]; exact hz) .none .none (slicePick_all _) ra (fun _ _ => rfl) fun v s' k' r' => hQ v s' (keeps_trans k₁ k') r'
/-- v[:] of a list -/
theorem J_sliceA {ds : List AV} {v : Expr} {p pos : Pos} (hv : J C n I ρ v (.lst ds)) (hz : ds.length ≤ 1000) : J C n I ρ (.Subscript v (.Slice none none none p) pos) (.lst ds) := by
  refine ⟨fun s P Q E hQ => ?_⟩
  refine Subscript_ (hv.run s P _ _ fun x s₁ k₁ r₁ => wpAny_Slice (evalPart_none_step (evalPart_none_step (evalPart_none_step ?_))))
  have P₁ := P.keeps k₁
  cases r₁ with
  | lst na ea ra => exact slice_lst P₁ ea (by rw [ra.length]; exact hz) .none .none (slicePick_all _) ra (fun _ _ => rfl) fun v s' k' r' => hQ v s' (keeps_trans k₁ k') r'
/-- v[:k] of a list -/
theorem J_sliceU {ds : List AV} {v e : Expr} {p pos : Pos} {k : Nat} (hv : J C n I ρ v (.lst ds)) (he : J C n I ρ e (.int k)) (hz : ds.length ≤ 1000) : J C n I ρ (.Subscript v (.Slice none (some e) none p) pos) (.lst (ds.take k)) := by
  refine ⟨fun s P Q E hQ => ?_⟩
  refine Subscript_ (hv.run s P _ _ fun x s₁ k₁ r₁ => wpAny_Slice (evalPart_none_step (evalPart_some_step (he.run s₁ (P.keeps k₁) _ _ fun y s₂ k₂ r₂ => evalPart_none_step ?_))))
  have P₂ := (P.keeps k₁).keeps k₂
  have r₁ := r₁.mono (keeps_kp k₂).but
  cases r₂
  cases r₁ with
  | lst na ea ra => exact slice_lst P₂ ea (by rw [ra.length]; exact hz) .none (.int _ _) (slicePick_upto' _ _) (by simpa using ra.take k) (fun _ _ => rfl) fun v s' k' r' => hQ v s' (keeps_trans (keeps_trans k₁ k₂) k') r'
theorem calls_items {t dx l : Addr} {ds : List AV} (hI : ∀ h, I h → Tab C.X t dx l ds h) (hz : ds.length ≤ 1000) : CallsB C (n + 1) I ρ (.ref 139) [.at t] (.lst ds) := by
  refine' calls_tab (xs := ["self"]) (fs := [.at t]) hI ?ho ?hcd ?hbind rfl ?hkind ?hnd ?hcn ?hco ?hgen ?hk ?hb
  case ho => (unfold HK fragOf; k_is)
  case hcd => (unfold HK fragOf; k_is)
  case hbind =>
    intro s vs _ r
    cases r with
    | cons a r =>
    cases r
    exact ⟨_, .cons a .nil, BindsTo.of_eq rfl⟩
  case hkind => exact rfl
  case hnd => decide
  case hcn => decide
  case hco => exact rfl
  case hgen => exact rfl
  case hk => exact rfl
  case hb =>
    intro L ft fd fl
    exact JS_ret (J_sliceT (fun h T => T) (J_hdrs (fun h T => T) rfl) hz) rfl
end
end Mine
end -- H5

section -- W1
open PySem PySem.W PyProof.Rows PySem.Calls
set_option maxRecDepth 100000
set_option maxHeartbeats 400000
namespace Mine
section
variable {C : Cx} {n : Nat} {I : Heap → Prop} {ρ : List (Str × AV)}
/-- one object that is none of the frame's has changed -/
theorem SP.upd {h h' : Heap} {I' : Heap → Prop} {l : Addr} (P : SP C n I ρ h) (hk : KpBut [l] h h') (hex : ∃ o, h'.get? l = some o) (hX : l ∈ C.X) (hF : l ∉ frA C.env) (hI : I' h') (st : ∀ h h', Kp h h' → I' h → I' h') (sf : ∀ h h', KpIt (frA C.env) h h' → I' h → I' h') : SP C n I' ρ h' := by
  have hs : ∀ b o, b ≠ l → h.get? b = some o → h'.get? b = some o := fun b o nb e => hk b o (by simpa using nb) e
  have kX : KpBut C.X h h' := fun b o nb e => hs b o (fun q => nb (q ▸ hX)) e
  have hL : C.env.locals ≠ l := fun q => hF (q ▸ .head _)
  have hC : ∀ y c, C.env.cells.lookup y = some c → c ≠ l := fun y c e q => hF (q ▸ .tail _ (List.mem_map.mpr ⟨(y, c), lookup_mem e, rfl⟩))
  refine ⟨⟨P.ok, fun b o e => kX b o (fun m => by have := P.ok.low b m; rw [e] at this; cases this) (P.old b o e), fun b m => ?_, hI, st, fun y d e => ?_⟩, ⟨?_, P.fw.inW, fun y c e => ?_, P.fw.inj⟩, sf⟩
  · by_cases q : b = l
    · subst q; exact hex
    · obtain ⟨o, e⟩ := P.ex b m; exact ⟨o, hs _ _ q e⟩
  · obtain ⟨v, lk, r⟩ := P.vars y d e
    refine ⟨v, ?_, r.mono kX⟩
    cases lk with
    | loc a b c => exact .loc a (b.at' fun o e => hs _ o hL e) c
    | cell a b c => exact .cell a b (cellAt c fun o e => hs _ o (hC _ _ b) e)
    | free a z b c => exact .free a z b (cellAt c fun o e => hs _ o (hC _ _ b) e)
  · obtain ⟨m, hm⟩ := P.fw.ns; exact ⟨m, hm.at' fun o e => hs _ o hL e⟩
  · obtain ⟨v, hv⟩ := P.fw.cell y c e; exact ⟨v, cellAt hv fun o e' => hs _ o (hC _ _ e) e'⟩
/-- the list of a table is changed -/
theorem Tab.put {X : List Addr} {t dx l : Addr} {ds ds' : List AV} {h h' : Heap} (T : Tab X t dx l ds h) (hk : KpBut [l] h h') (hl : OwnI X l ds' h') : Tab X t dx l ds' h' := by
  have hs : ∀ b o, b ≠ l → h.get? b = some o → h'.get? b = some o := fun b o nb e => hk b o (by simpa using nb) e
  obtain ⟨a, b, c, e⟩ := T.di
  obtain ⟨vs, m, el, _⟩ := T.li
  refine ⟨hs _ _ (fun q => ?_) T.ob, ⟨a, b, c, hs _ _ (fun q => ?_) e⟩, hl⟩
  · have := T.ob; rw [q, el] at this; cases this
  · rw [q, el] at e; exact absurd (congrArg Obj.cls (Option.some.inj e)) (show ¬ Value.type "list" = Value.type "dict" by decide)
/-- o._headers.append(e) -/
theorem JS_appendT {t dx l : Addr} {ds : List AV} {d : AV} {x : Str} {xp hp ap cp pos : Pos} {e : Expr} {rest : List Stmt} {Post : Out → Prop} (hI : ∀ h, I h → Tab C.X t dx l ds h) (hx : ρ.lookup x = some (.at t)) (hW : l ∈ C.W) (hT : t ∉ frA C.env) (hD : dx ∉ frA C.env) (hF : l ∉ frA C.env)
    (he : J C n I ρ e d) (hz : ds.length ≤ 1000) (k : JS C n (Tab C.X t dx l (ds ++ [d])) ρ rest Post) (hd' : (x == ("__debug__" : Str)) = false := by decide) (hl : (ap.endLine == cp.line) = true := by rfl) (h2 : W.isStarred e = false := by rfl)
    (hi : interactive C.env = false := by rfl) : JS C n I ρ (.Expr (.Call (.Attribute (.Attribute (.Name x xp) "_headers" hp) "append" ap) [e] [] cp) pos :: rest) Post := by
  refine ⟨fun s P Q E hN hR => ?_⟩
  refine wpAny_execs_cons (wpAny_Expr ?_ hi rfl)
  refine ev_meth ((J_hdrs hI hx hd').run s P.toPre _ _ fun v s₁ k₁ r₁ => ?_) (base_of rfl) (form0 (args := [e]) (by rw [List.any_cons, h2]; rfl) (Nat.le_of_ble_eq_true rfl)) hl
  cases r₁
  have P₁ := P.keeps k₁
  obtain ⟨vs, m, e₁, ra₁⟩ := (hI _ P₁.inv).li
  refine getMethod_builtin (T := "list") ⟨_, e₁, rfl⟩ F.plainAttrs_list F.slot_list_append F.type_list_append (fun b q => by cases q; exact ⟨_, e₁, rfl⟩) ?_
  refine callWith_method1 ((JL_cons he JL_nil h2).run cp s₁ P₁.toPre _ _ fun ws s₂ k₂ r₂ => ?_) (star_cons h2) rfl
  cases r₂ with
  | cons r q =>
  cases q
  have P₂ := P₁.keeps k₂
  have T₂ := hI _ P₂.inv
  obtain ⟨vs₂, m₂, e₂, ra₂⟩ := T₂.li
  have hsz : vs₂.toArray.size ≤ sizeLine := by rw [List.size_toArray, ra₂.length]; exact Nat.le_trans hz (by decide)
  refine wpAny_list_append_plain (hsz := hsz) ⟨m₂, e₂⟩ fun h' hl' hs' => ?_
  dsimp only
  obtain ⟨m', e'⟩ := hl'
  have hX : l ∈ C.X := P.ok.sub _ hW
  have kX : KpBut C.X s₂.heap h' := fun b o nb e => (hs'.2 b fun q => nb (q ▸ hX)).trans e
  have kl : KpBut [l] s₂.heap h' := fun b o nb e => (hs'.2 b fun q => nb (q ▸ .head _)).trans e
  have T₃ : Tab C.X t dx l (ds ++ [d]) h' := T₂.put kl ⟨vs₂ ++ [_], m', by simpa using e', (ra₂.mono kX).append (.cons (r.mono kX) .nil)⟩
  have P₃ := P₂.upd kl ⟨_, e'⟩ hX hF T₃ Tab.st (Tab.sf (fun b m => P.ok.sub _ (P.fw.inW _ m)) hT hD hF)
  have kk : Ch C.W s { s₂ with heap := h' } := ((Ch.of k₁).trans (Ch.of k₂)).trans ⟨h', s₂.toks, rfl, fun b o nb e => kl b o (fun m => nb (List.mem_singleton.mp m ▸ hW)) e⟩
  exact k.run _ P₃ _ _ (fun I' ρ' s' p c => hN I' ρ' s' p (kk.trans c)) fun I' ρ' d v s' p c => hR I' ρ' d v s' p (kk.trans c)
open Builtin.List in
/-- l[:] = items of another list -/
theorem setItem_all {l sl D : Addr} {vs us : List Value} {m k : Nat} {s : Shared} {Q : Unit → Shared → Prop} {E : Value → Shared → Prop} (hl : s.heap.get? l = some (lstO vs m)) (hD : s.heap.get? D = some (lstO us k)) (hs : s.heap.IsSliceOf sl .none .none .none) (hne : l ≠ D) (h1 : vs.length ≤ 1000) (h2 : us.length ≤ 1000)
    (hQ : ∀ h' m', h'.get? l = some (lstO us m') → Heap.SameBut l s.heap h' → Q () { s with heap := h' }) : wpAny (model PR C.w) C.A (setItem (.ref l) (.ref sl) (.ref D)) Q E s := by
  have hL : s.heap.IsList l vs.toArray := ⟨_, hl, rfl, _, rfl⟩
  have hLD : s.heap.IsList D us.toArray := ⟨_, hD, rfl, _, rfl⟩
  obtain ⟨os, hos, hcs, hds⟩ := id hs
  have hTs : s.TypeIs (.ref sl) "slice" := ⟨os, hos, hcs⟩
  unfold setItem
  refine wpAny_holding ?_
  refine wpAny_bind (wpAny_sequenceKey hL.typeIs (by decide) ?_)
  refine wpAny_bind (wpAny_callSpecial?_slot (name := Str.ofString "__setitem__") hL.typeIs PySem.slot_list_setitem (wpAny_call_entry PySem.slot_list_setitem hL.typeIs PySem.entry_list_setitem ?_ (PySem.args_list_setitem _ _ _)))
  show wpAny _ _ (listSubscript? (.ref sl) >>= _) _ _ s
  refine wpAny_bind ?_
  unfold listSubscript?
  refine wpAny_bind (wpAny_specialOf hTs slice_no_index ?_)
  simp only [Option.isNone_none, if_true]
  refine wpAny_pure ?_
  show wpAny _ _ (typeOf (.ref sl) >>= _) _ _ s
  refine wpAny_bind (wpAny_typeOf hTs ?_)
  rw [if_neg (by decide)]
  rw [listSliceParts_eq]
  refine wpAny_bind (wpAny_bind (wpAny_field hos hds (x := .none) rfl (wpAny_bind (wpAny_listPart .none ?_))))
  rw [if_neg (by decide)]
  refine wpAny_bind (wpAny_field hos hds (x := .none) rfl (wpAny_bind (wpAny_listPart .none ?_)))
  refine wpAny_bind (wpAny_field hos hds (x := .none) rfl (wpAny_bind (wpAny_listPart .none (wpAny_pure ?_))))
  have hb : listSameRef (.ref l) (.ref D) = false := by show (l == D) = false; simpa using hne
  rw [if_neg (by rw [hb]; decide)]
  unfold listAllItems
  refine wpAny_bind (wpAny_bind (wpAny_typeOf hLD.typeIs ?_))
  rw [if_pos (by decide)]
  refine listItems_at hD rfl ?_
  refine wpAny_bind (listItems_at hl rfl ?_)
  refine wpAny_bind (wpAny_of_eq (sliceIndices_raw none none none vs.toArray.size (by simp)) ?_)
  have hbd : sliceBounds none none none vs.toArray.size = (0, (vs.toArray.size : Int), 1) := rfl
  rw [hbd]
  dsimp only
  rw [if_pos (by decide)]
  refine wpAny_bind (wpAny_rule ?_)
  have hlong : listTooLong (vs.toArray.size + us.toArray.size) = false := by
    unfold listTooLong
    rw [List.size_toArray, List.size_toArray]
    have : (1000 : Nat) + 1000 ≤ sizeLine := by decide
    exact decide_eq_false (by omega)
  rw [if_neg (by rw [hlong]; decide)]
  have hmax : (max (0 : Int) (vs.toArray.size : Int)).toNat = vs.length := by rw [List.size_toArray]; omega
  have hf : (vs.toArray.extract 0 (0 : Int).toNat ++ us.toArray ++ vs.toArray.extract (max (0 : Int) (vs.toArray.size : Int)).toNat vs.toArray.size) = us.toArray := by
    rw [hmax]; simp
  refine wpAny_bind (listUpdate_at hl rfl ?_ ?_ ?_)
  · refine wpAny_bind (wpAny_letGo ?_)
    refine wpAny_pure ⟨.none, rfl, wpAny_pure (hQ _ (if us.toArray.size == vs.toArray.size then m else m + 1) ?_ (Heap.SameBut.update ..))⟩
    have key : Obj.mapSeq (fun xs => xs.extract 0 (0 : Int).toNat ++ us.toArray ++ xs.extract (max (0 : Int) (vs.toArray.size : Int)).toNat xs.size) (lstO vs m) = lstO us (if us.toArray.size == vs.toArray.size then m else m + 1) := by
      unfold Obj.mapSeq
      dsimp only
      rw [hf]
    rw [← key]
    exact Heap.get?_update_self _ hl (by rw [key]; rfl)
  · rw [List.size_toArray]; exact Nat.le_trans h1 (by decide)
  · rw [hf, List.size_toArray]; exact Nat.le_trans h2 (by decide)
/-- o._headers[:] = e -/
theorem JS_sliceSet {t dx l : Addr} {ds ds' : List AV} {x : Str} {xp hp sp tp pos : Pos} {e : Expr} {rest : List Stmt} {Post : Out → Prop} (hI : ∀ h, I h → Tab C.X t dx l ds h) (hx : ρ.lookup x = some (.at t)) (hW : l ∈ C.W) (hT : t ∉ frA C.env) (hD : dx ∉ frA C.env) (hF : l ∉ frA C.env)
    (he : J C n I ρ e (.lst ds')) (hz : ds.length ≤ 1000) (hz' : ds'.length ≤ 1000) (k : JS C n (Tab C.X t dx l ds') ρ rest Post) (hd' : (x == ("__debug__" : Str)) = false := by decide)
    (hs : swapsWith e (some (.Subscript (.Attribute (.Name x xp) "_headers" hp) (.Slice none none none sp) tp)) pos.line C.env = pure false := by rfl) :
    JS C n I ρ (.Assign [.Subscript (.Attribute (.Name x xp) "_headers" hp) (.Slice none none none sp) tp] e pos :: rest) Post := by
  refine ⟨fun s P Q E hN hR => ?_⟩
  refine wpAny_execs_cons (wpAny_Assign_Subscript (he.run s P.toPre _ _ fun v s₁ k₁ r₁ => (J_hdrs hI hx hd').run s₁ (P.keeps k₁).toPre _ _ fun o s₂ k₂ r₂ => wpAny_Slice (evalPart_none_step (evalPart_none_step (evalPart_none_step ?_)))) hs)
  cases r₂
  have P₂ := (P.keeps k₁).keeps k₂
  have r₁ := r₁.mono (keeps_kp k₂).but
  have T₂ := hI _ P₂.inv
  obtain ⟨vs, m, el, ra⟩ := T₂.li
  have hX : l ∈ C.X := P.ok.sub _ hW
  cases r₁ with
  | lst na ea ru =>
  rename_i D us j
  have kp : Kp s₂.heap (s₂.heap.push { cls := .type "slice", data := .fields #[.none, .none, .none] }) := Kp.push _
  refine setItem_all (l := l) (D := D) (vs := vs) (us := us) (kp _ _ el) (kp _ _ ea) (Heap.IsSliceOf.new ..) (fun q => na (q ▸ hX)) (by rw [ra.length]; exact hz) (by rw [ru.length]; exact hz') fun h' m' e' hs' => ?_
  dsimp only at hs' ⊢
  have kl : KpBut [l] s₂.heap h' := fun b o nb e => (hs'.2 b fun q => nb (q ▸ .head _)).trans (kp _ _ e)
  have kX : KpBut C.X s₂.heap h' := fun b o nb e => kl b o (fun q => nb (List.mem_singleton.mp q ▸ hX)) e
  have T₃ : Tab C.X t dx l ds' h' := T₂.put kl ⟨us, m', e', ru.mono kX⟩
  have P₃ := P₂.upd kl ⟨_, e'⟩ hX hF T₃ Tab.st (Tab.sf (fun b m => P.ok.sub _ (P.fw.inW _ m)) hT hD hF)
  have kk : Ch C.W s { s₂ with heap := h' } := ((Ch.of k₁).trans (Ch.of k₂)).trans ⟨h', s₂.toks, rfl, fun b o nb e => kl b o (fun m => nb (List.mem_singleton.mp m ▸ hW)) e⟩
  exact k.run _ P₃ _ _ (fun I' ρ' s' p c => hN I' ρ' s' p (kk.trans c)) fun I' ρ' d v s' p c => hR I' ρ' d v s' p (kk.trans c)
end
end Mine
end -- W1

section -- W2
open PySem PySem.W PyProof.Rows PySem.Calls
set_option maxRecDepth 100000
set_option maxHeartbeats 400000
namespace Mine
/-- the lines of other names -/
noncomputable def othersOf (ls : List Ln) (x : Str) : List Ln := ls.filter fun kv => Txt.lower kv.1 != x
noncomputable def pNot (x : Str) : AV → Bool
  | .tup (.str a :: _) => Txt.lower a != x
  | _ => false
theorem others_eq (ls : List Ln) (x : Str) : ((ls.map lineA).filter (pNot x)).map (fun d => d) = (othersOf ls x).map lineA := by
  unfold othersOf
  rw [List.map_id']
  induction ls with
  | nil => rfl
  | cons kv ls ih =>
    rw [List.map_cons, List.filter_cons, List.filter_cons]
    have : pNot x (lineA kv) = (Txt.lower kv.1 != x) := rfl
    rw [this]
    cases (Txt.lower kv.1 != x) with
    | true => simp only [if_true, List.map_cons, ih]
    | false => simpa using ih
section
variable {C : Cx} {n : Nat} {I : Heap → Prop} {ρ : List (Str × AV)}
/-- a call that changes the table's list and nothing else -/
structure CallsW (C : Cx) (n : Nat) (I : Heap → Prop) (ρ : List (Str × AV)) (f : Value) (es : List AV) (t dx l : Addr) (ds' : List AV) (d : AV) : Prop where
  run : ∀ s vs Q E, Pre C n I ρ s.heap → RdAll C.X s.heap vs es → (∀ v s', Ch [l] s s' → Tab C.X t dx l ds' s'.heap → Rd C.X s'.heap v d → Q v s') → wpAny (model PR C.w) C.A (call f vs) Q E s
/-- how a writing method ends -/
noncomputable abbrev PostW (Y : List Addr) (t dx l : Addr) (ds' : List AV) (d : AV) : Out → Prop := fun o => match o with
  | .next I' _ => d = .none ∧ ∀ h, I' h → Tab Y t dx l ds' h
  | .ret I' e => e = d ∧ ∀ h, I' h → Tab Y t dx l ds' h
theorem calls_tabW {f : Addr} {name qual : Str} {params : Arguments} {body : List Stmt} {scope : Scope} {dV kV doc pm cdv ct oc : Value} {an od : Option Addr} {osl : Array (Option Value)} {xs : List Str} {es fs : List AV} {d : AV} {t dx l : Addr} {ds ds' : List AV}
    (hI : ∀ h, I h → Tab C.X t dx l ds h) (hlX : l ∈ C.X)
    (ho : (HK C.w.params).lookup f = some ⟨oc, od, .func (fnX name qual params body scope [] dV kV doc pm an cdv ct), osl⟩) (hcd : codeIn (HK C.w.params) cdv qual = true)
    (hbind : ∀ (s : Shared) vs, (HK C.w.params).In s.heap → RdAll C.X s.heap vs es → ∃ ws, RdAll C.X s.heap ws fs ∧ BindsTo s (fnX name qual params body scope [] dV kV doc pm an cdv ct) ⟨vs, []⟩ (xs.zip ws))
    (hlen : xs.length = fs.length) (hkind : (xs.all fun y => scope.names.lookup y == some .local || scope.names.lookup y == some .cell) = true) (hnd : xs.Nodup) (hcn : ((cellsFrom 0 scope.names []).map (·.1)).Nodup)
    (hco : scope.isCoroutine = false) (hgen : scope.isGenerator = false) (hk : scope.kind = .function)
    (hb : ∀ L, t ∉ frA (envOfC qual scope L f cdv) → dx ∉ frA (envOfC qual scope L f cdv) → l ∉ frA (envOfC qual scope L f cdv) → JS (callC C [l] qual scope L f cdv) n (Tab (frA (envOfC qual scope L f cdv) ++ C.X) t dx l ds) (xs.zip fs) body (PostW (frA (envOfC qual scope L f cdv) ++ C.X) t dx l ds' d)) : CallsW C (n + 1) I ρ (.ref f) es t dx l ds' d := by
  refine ⟨fun s vs Q E P r hQ => ?_⟩
  obtain ⟨ws, rw', hb'⟩ := hbind s vs P.K r
  have hl' : xs.length = ws.length := by rw [hlen, rw'.length]
  have T := hI _ P.inv
  have miss := fr_miss (h := s.heap) (qual := qual) (scope := scope) (f := f) (cdv := cdv)
  have hx : ∀ {a o}, s.heap.get? a = some o → a ∉ frA (envOfC qual scope s.heap.objs.size f cdv) := fun e m => by rw [miss _ m] at e; cases e
  obtain ⟨_, _, _, edx⟩ := T.di
  obtain ⟨_, _, el, _⟩ := T.li
  have f1 := hx T.ob
  have f2 := hx edx
  have f3 := hx el
  have z1 : (xs.zip ws).map (·.1) = xs := by rw [List.map_fst_zip]; omega
  refine wpAny_call ?_
  refine enterA (sB := s) (binds := xs.zip ws) (W0 := [l]) (I0 := Tab (frA (envOfC qual scope s.heap.objs.size f cdv) ++ C.X) t dx l ds) (ρ0 := xs.zip fs) (Post := PostW (frA (envOfC qual scope s.heap.objs.size f cdv) ++ C.X) t dx l ds' d) P ho hcd (keeps_refl s) (fun M A E Q h => hb' M A E Q h) ?_ (by rw [z1]; exact hnd) hcn hco hgen hk ?_
    (T.re fun a m => (List.mem_append.mp m).elim (fun m => .inr (miss _ m)) .inl) Tab.st ?_ (fun a m => List.mem_singleton.mp m ▸ hlX) ?_ ?_ ?_
  · rw [List.all_eq_true] at hkind ⊢
    rintro ⟨y, v⟩ hm
    exact hkind y (List.of_mem_zip hm).1
  · clear hb hb' hbind hkind hnd z1 r hQ
    induction xs generalizing ws fs with
    | nil => exact .nil
    | cons y xs ih =>
      cases rw' with
      | nil => cases hlen
      | cons a r => exact .cons a (ih (by simpa using hlen) _ r (by simpa using hl'))
  · rintro L h h' rfl
    exact Tab.sf (fun b m => List.mem_append.mpr (.inl m)) f1 f2 f3 h h'
  · rintro L rfl
    exact hb _ f1 f2 f3
  · rintro I' e v s' ⟨he, hT⟩ c hI' r
    subst he
    exact hQ v s' c ((hT _ hI').re fun a m => .inl (List.mem_append.mpr (.inr m))) r
  · rintro I' ρ' s' ⟨he, hT⟩ c hI'
    subst he
    exact hQ .none s' c ((hT _ hI').re fun a m => .inl (List.mem_append.mpr (.inr m))) .none
theorem calls_del {t dx l : Addr} {ls : List Ln} {x : Str} (hI : ∀ h, I h → Tab C.X t dx l (ls.map lineA) h) (hlX : l ∈ C.X) (hs : Short ls) (hx : x.length ≤ 5592405) (hp : Txt.lower x ∈ pins) :
    CallsW C (n + 2) I ρ (.ref 95) [.at t, .str x] t dx l ((othersOf ls (Txt.lower x)).map lineA) .none := by
  have hz := hs.1
  refine' calls_tabW (xs := ["self", "name"]) (fs := [.at t, .str x]) hI hlX ?ho ?hcd ?hbind rfl ?hkind ?hnd ?hcn ?hco ?hgen ?hk ?hb
  case ho => (unfold HK fragOf; k_is)
  case hcd => (unfold HK fragOf; k_is)
  case hbind =>
    intro s vs _ r
    cases r with
    | cons a r =>
    cases r with
    | cons b r =>
    cases r
    exact ⟨_, .cons a (.cons b .nil), BindsTo.of_eq rfl⟩
  case hkind => exact rfl
  case hnd => decide
  case hcn => decide
  case hco => exact rfl
  case hgen => exact rfl
  case hk => exact rfl
  case hb =>
    intro L ft fd fl
    refine JS_assign (d := .str (Txt.lower x)) (J_conv (b := true) (fun h T => T) rfl (J_lower (J_name rfl) hx) hp) (.cell rfl rfl) ?_
    refine JS_sliceSet (ds' := (othersOf ls (Txt.lower x)).map lineA) (fun h T => T) rfl (List.mem_append.mpr (.inr (.head _))) ft fd fl (J_noW (W' := []) (J_cast (others_eq ls (Txt.lower x) ▸ rfl) (J_comp (x := "kv") (p := pNot (Txt.lower x)) (g := fun d => d) (ρ' := [("name", .str (Txt.lower x))]) (J_hdrs (fun h T => T) rfl) (Itr_tab (fun h T => T) (fun a m => m) (fun q => nomatch q)) ?_ (cap_cons rfl ⟨.inl rfl, .inl rfl, rfl, rfl⟩ cap_nil) ?_)) (fun a m => nomatch m)) ?_ ?_ (JS_nil ⟨rfl, fun h T => T⟩)
    · rw [List.length_map]; omega
    · intro d hd c' X'
      obtain ⟨kv, hkv, rfl⟩ := List.mem_map.mp hd
      refine ⟨JT_one (JB_cmp (J_lower (J_itemT (J_name rfl) J_int (by decide) (by decide) rfl) (pins_len _ (hs.2 kv hkv).1)) (J_name rfl) ?_ rfl), fun _ => J_name rfl⟩
      intro s x y Q E P r₁ r₂ hQ
      cases r₁; cases r₂
      exact ne_str (hQ _ _ (keeps_refl s) (.bool _))
    · rw [List.length_map]; omega
    · rw [List.length_map]
      have : (othersOf ls (Txt.lower x)).length ≤ ls.length := List.length_filter_le _ _
      omega
end
end Mine
end -- W2

section -- W3
open PySem PySem.W PyProof.Rows PySem.Calls
set_option maxRecDepth 100000
set_option maxHeartbeats 400000
namespace Mine
section
variable {C : Cx} {n : Nat} {I : Heap → Prop} {ρ : List (Str × AV)}
theorem memL {l : Addr} {F : List Addr} : l ∈ F ++ [l] := List.mem_append.mpr (.inr (.head _))
theorem memR {l : Addr} {F G : List Addr} (h : l ∈ G) : l ∈ F ++ G := List.mem_append.mpr (.inr h)
/-- a datum that is no object -/
noncomputable def NoRef (d : AV) : Prop := ∀ X h a, ¬ Rd X h (.ref a) d
theorem noRef_none : NoRef .none := fun X h a r => by cases r
theorem noRef_str {x : Str} : NoRef (.str x) := fun X h a r => by cases r
/-- an expression that changes the table -/
structure JE (C : Cx) (n : Nat) (I : Heap → Prop) (ρ : List (Str × AV)) (e : Expr) (I' : Heap → Prop) (d : AV) : Prop where
  run : ∀ s, SP C n I ρ s.heap → ∀ Q E, (∀ v s', Ch C.W s s' → SP C n I' ρ s'.heap → Rd C.X s'.heap v d → Q v s') → wpAny (model PR C.w) C.A (eval e C.env) Q E s
/-- the frame does not own the table -/
structure Off (C : Cx) (t dx l : Addr) : Prop where
  w : l ∈ C.W
  t : t ∉ frA C.env
  d : dx ∉ frA C.env
  l : l ∉ frA C.env
theorem SP.tab {t dx l : Addr} {ds ds' : List AV} {s s' : Shared} (P : SP C n I ρ s.heap) (o : Off C t dx l) (c : Ch [l] s s') (T : Tab C.X t dx l ds' s'.heap) : SP C n (Tab C.X t dx l ds') ρ s'.heap ∧ Ch C.W s s' := by
  obtain ⟨h', tk, rfl, k⟩ := c
  obtain ⟨vs, m, e, _⟩ := T.li
  exact ⟨P.upd k ⟨_, e⟩ (P.ok.sub _ o.w) o.l T Tab.st (Tab.sf (fun b m => P.ok.sub _ (P.fw.inW _ m)) o.t o.d o.l), h', tk, rfl, k.mono fun a m => List.mem_singleton.mp m ▸ o.w⟩
theorem JE_methT {t dx l f : Addr} {ds ds' es : List AV} {d : AV} {o m : Str} {op ap pos : Pos} {e : Expr} {rest : List Expr} (hI : ∀ h, I h → Tab C.X t dx l ds h) (ho : ρ.lookup o = some (.at t)) (off : Off C t dx l) (ha : JL C n I ρ (e :: rest) es) (hc : CallsW C n I ρ (.ref f) (.at t :: es) t dx l ds' d)
    (hf : findIn (HK C.w.params) (.ref 175) m = some (some (.ref f))) (hn : isFn (HK C.w.params) (.ref f) = true) (hkp : keepIn (HK C.w.params) (.ref f) = true)
    (hm : ("_headers" == m) = false := by decide) (hd' : (o == ("__debug__" : Str)) = false := by decide) (hl : (ap.endLine == pos.line) = true := by rfl) (h2 : W.isStarred e = false := by rfl) (h3 : rest.any W.isStarred = false := by rfl) (h4 : (e :: rest).length < 20 := by decide) :
    JE C n I ρ (.Call (.Attribute (.Name o op) m ap) (e :: rest) [] pos) (Tab C.X t dx l ds') d := by
  refine ⟨fun s P Q E hQ => ?_⟩
  refine ev_meth ((J_name ho hd').run s P.toPre _ _ fun v s₁ k₁ r₁ => ?_) (base_of rfl) (form0 (args := e :: rest) (by rw [List.any_cons, h2, h3]; rfl) h4) hl
  cases r₁
  have P₁ := P.keeps k₁
  refine gm_tab P₁.toPre (hI _ P₁.inv) hf hn hm ?_
  refine callWith_K P₁.toPre.K hkp (ha.run pos s₁ P₁.toPre _ _ fun vs s₂ k₂ r₂ => ⟨(P₁.keeps k₂).toPre.K, ?_⟩) (star_cons h2) (back_star h3)
  refine hc.run s₂ _ _ _ (P₁.keeps k₂).toPre (.cons (.at t) r₂) fun v s₃ k₃ T₃ r₃ => ?_
  obtain ⟨P₃, c₃⟩ := (P₁.keeps k₂).tab (ds := ds) off k₃ T₃
  exact hQ v s₃ ((Ch.of k₁).trans ((Ch.of k₂).trans c₃)) P₃ r₃
/-- an expression as a statement -/
theorem JS_exprE {e : Expr} {pos : Pos} {rest : List Stmt} {I' : Heap → Prop} {d : AV} {Post : Out → Prop} (h : JE C n I ρ e I' d) (hd : NoRef d) (k : JS C n I' ρ rest Post) (hi : interactive C.env = false := by rfl) (hs : swapsWith e none pos.line C.env = pure false := by rfl) : JS C n I ρ (.Expr e pos :: rest) Post := by
  refine ⟨fun s P Q E hN hR => ?_⟩
  refine wpAny_execs_cons (wpAny_Expr (h.run s P _ _ fun v s₁ c₁ P₁ r₁ => ?_) hi hs)
  have fin := k.run s₁ P₁ Q E (fun I' ρ' s' p c => hN I' ρ' s' p (c₁.trans c)) fun I' ρ' d v s' p c => hR I' ρ' d v s' p (c₁.trans c)
  cases v <;> first | exact fin | exact (hd _ _ _ r₁).elim
theorem JS_exprJ {e : Expr} {pos : Pos} {rest : List Stmt} {d : AV} {Post : Out → Prop} (h : J C n I ρ e d) (hd : NoRef d) (k : JS C n I ρ rest Post) (hi : interactive C.env = false := by rfl) (hs : swapsWith e none pos.line C.env = pure false := by rfl) : JS C n I ρ (.Expr e pos :: rest) Post :=
  JS_exprE (I' := I) (d := d) ⟨fun s P Q E hQ => h.run s P.toPre Q E fun v s' k' r' => hQ v s' (Ch.of k') (P.keeps k') r'⟩ hd k hi hs
/-- x = e -/
theorem JS_assignE {x : Str} {xp pos : Pos} {e : Expr} {rest : List Stmt} {I' : Heap → Prop} {d : AV} {Post : Out → Prop} (h : JE C n I ρ e I' d) (hx : Own C x) (k : JS C n I' ((x, d) :: ρ) rest Post)
    (hs : swapsWith e (some (.Name x xp)) pos.line C.env = pure false := by rfl) : JS C n I ρ (.Assign [.Name x xp] e pos :: rest) Post := by
  refine ⟨fun s P Q E hN hR => ?_⟩
  refine wpAny_execs_cons (wpAny_Assign_Name (h.run s P _ _ fun v s₁ c₁ P₁ r₁ => store P₁ hx r₁ fun s₂ k₂ P₂ => ?_) hs)
  exact k.run s₂ P₂ _ _ (fun I' ρ' s' p c => hN I' ρ' s' p (c₁.trans ((k₂.mono P.fw.inW).trans c))) fun I' ρ' d v s' p c => hR I' ρ' d v s' p (c₁.trans ((k₂.mono P.fw.inW).trans c))
theorem hd_noSeq (w : World) : noSeq (HK w.params) 175 = true := by kernel_rfl
theorem fm_setitem (w : World) : findIn (HK w.params) (.ref 175) "__setitem__" = some (some (.ref 90)) := by kernel_rfl
theorem fm_delitem (w : World) : findIn (HK w.params) (.ref 175) "__delitem__" = some (some (.ref 95)) := by kernel_rfl
theorem fn_setitem (w : World) : isFn (HK w.params) (.ref 90) = true := by kernel_rfl
theorem fn_delitem (w : World) : isFn (HK w.params) (.ref 95) = true := by kernel_rfl
theorem delItem_tab {X : List Addr} {t dx l : Addr} {ds : List AV} {i : Value} {s : Shared} {Q : Unit → Shared → Prop} {E : Value → Shared → Prop} (P : Pre C n I ρ s.heap) (T : Tab X t dx l ds s.heap)
    (h : wpAny (model PR C.w) C.A (call (.ref 95) [.ref t, i]) (fun _ s' => Q () s') E s) : wpAny (model PR C.w) C.A (delItem (.ref t) i) Q E s := by
  obtain ⟨a, b, c, j⟩ := T.inst
  unfold delItem sequenceKey
  refine wpAny_holding (wpAny_bind (wpAny_bind (j.type.here ?_)))
  refine wpAny_bind ((anyM_none P.K (hd_noSeq _)).here ?_)
  rw [if_pos (show (!false) = true from rfl)]
  exact wpAny_pure (wpAny_bind (special_fn P.K j (fm_delitem _) (beq_iff_eq.mp (fn_delitem _)) (wpAny_mono h (fun _ _ z => wpAny_pure z) fun _ _ z => z)))
theorem setItem_tab {X : List Addr} {t dx l : Addr} {ds : List AV} {i v : Value} {s : Shared} {Q : Unit → Shared → Prop} {E : Value → Shared → Prop} (P : Pre C n I ρ s.heap) (T : Tab X t dx l ds s.heap)
    (h : wpAny (model PR C.w) C.A (call (.ref 90) [.ref t, i, v]) (fun _ s' => Q () s') E s) : wpAny (model PR C.w) C.A (setItem (.ref t) i v) Q E s := by
  obtain ⟨a, b, c, j⟩ := T.inst
  unfold setItem sequenceKey
  refine wpAny_holding (wpAny_bind (wpAny_bind (j.type.here ?_)))
  refine wpAny_bind ((anyM_none P.K (hd_noSeq _)).here ?_)
  rw [if_pos (show (!false) = true from rfl)]
  exact wpAny_pure (wpAny_bind (special_fn P.K j (fm_setitem _) (beq_iff_eq.mp (fn_setitem _)) (wpAny_mono h (fun _ _ z => wpAny_pure z) fun _ _ z => z)))
/-- del x[e] -/
theorem JS_delT {t dx l : Addr} {ds ds' : List AV} {x : Str} {xp tp pos : Pos} {e : Expr} {d r : AV} {rest : List Stmt} {Post : Out → Prop} (hI : ∀ h, I h → Tab C.X t dx l ds h) (hx : ρ.lookup x = some (.at t)) (off : Off C t dx l) (he : J C n I ρ e d) (hc : CallsW C n I ρ (.ref 95) [.at t, d] t dx l ds' r)
    (k : JS C n (Tab C.X t dx l ds') ρ rest Post) (hd' : (x == ("__debug__" : Str)) = false := by decide) : JS C n I ρ (.Delete [.Subscript (.Name x xp) e tp] pos :: rest) Post := by
  refine ⟨fun s P Q E hN hR => ?_⟩
  refine wpAny_execs_cons (wpAny_Delete (wpAny_deleteEach_cons ?_))
  rw [arm_delete_Subscript]
  refine wpAny_bind ((J_name hx hd').run s P.toPre _ _ fun o s₁ k₁ r₁ => wpAny_bind (wpAny_holding (he.run s₁ (P.keeps k₁).toPre _ _ fun i s₂ k₂ r₂ => wpAny_bind (wpAny_standAt (wpAny_bind (wpAny_holding ?_))))))
  cases r₁
  have P₂ := (P.keeps k₁).keeps k₂
  refine delItem_tab P₂.toPre (hI _ P₂.inv) (hc.run s₂ _ _ _ P₂.toPre (.cons (.at t) (.cons r₂ .nil)) fun v s₃ k₃ T₃ r₃ => ?_)
  obtain ⟨P₃, c₃⟩ := P₂.tab (ds := ds) off k₃ T₃
  have cc := (Ch.of k₁).trans ((Ch.of k₂).trans c₃)
  refine wpAny_release (wpAny_deleteEach_nil ?_)
  exact k.run s₃ P₃ _ _ (fun I' ρ' s' p c => hN I' ρ' s' p (cc.trans c)) fun I' ρ' d v s' p c => hR I' ρ' d v s' p (cc.trans c)
/-- x[e] = v -/
theorem JS_setT {t dx l : Addr} {ds ds' : List AV} {x : Str} {xp tp pos : Pos} {e v : Expr} {d d₁ r : AV} {rest : List Stmt} {Post : Out → Prop} (hI : ∀ h, I h → Tab C.X t dx l ds h) (hx : ρ.lookup x = some (.at t)) (off : Off C t dx l) (he : J C n I ρ e d) (hv : J C n I ρ v d₁) (hc : CallsW C n I ρ (.ref 90) [.at t, d, d₁] t dx l ds' r)
    (k : JS C n (Tab C.X t dx l ds') ρ rest Post) (hd' : (x == ("__debug__" : Str)) = false := by decide) (hs : swapsWith v (some (.Subscript (.Name x xp) e tp)) pos.line C.env = pure false := by rfl) : JS C n I ρ (.Assign [.Subscript (.Name x xp) e tp] v pos :: rest) Post := by
  refine ⟨fun s P Q E hN hR => ?_⟩
  refine wpAny_execs_cons (wpAny_Assign_Subscript (hv.run s P.toPre _ _ fun u s₁ k₁ r₁ => (J_name hx hd').run s₁ (P.keeps k₁).toPre _ _ fun o s₂ k₂ r₂ => he.run s₂ ((P.keeps k₁).keeps k₂).toPre _ _ fun i s₃ k₃ r₃ => ?_) hs)
  cases r₂
  have P₃ := ((P.keeps k₁).keeps k₂).keeps k₃
  refine setItem_tab P₃.toPre (hI _ P₃.inv) (hc.run s₃ _ _ _ P₃.toPre (.cons (.at t) (.cons r₃ (.cons (r₁.mono (keeps_kp (keeps_trans k₂ k₃)).but) .nil))) fun v s₄ k₄ T₄ r₄ => ?_)
  obtain ⟨P₄, c₄⟩ := P₃.tab (ds := ds) off k₄ T₄
  have cc := (Ch.of k₁).trans ((Ch.of k₂).trans ((Ch.of k₃).trans c₄))
  exact k.run s₄ P₄ _ _ (fun I' ρ' s' p c => hN I' ρ' s' p (cc.trans c)) fun I' ρ' d v s' p c => hR I' ρ' d v s' p (cc.trans c)
theorem calls_set {t dx l : Addr} {ls : List Ln} {x y : Str} (hI : ∀ h, I h → Tab C.X t dx l (ls.map lineA) h) (hlX : l ∈ C.X) (hs : Short ls) (hx : x ∈ pins) (hp : Txt.lower x ∈ pins) (hy : y ∈ vals) :
    CallsW C (n + 3) I ρ (.ref 90) [.at t, .str x, .str y] t dx l ((othersOf ls (Txt.lower x) ++ [(x, y)]).map lineA) .none := by
  have hz := hs.1
  refine' calls_tabW (xs := ["self", "name", "val"]) (fs := [.at t, .str x, .str y]) hI hlX ?ho ?hcd ?hbind rfl ?hkind ?hnd ?hcn ?hco ?hgen ?hk ?hb
  case ho => (unfold HK fragOf; k_is)
  case hcd => (unfold HK fragOf; k_is)
  case hbind =>
    intro s vs _ r
    cases r with
    | cons a r =>
    cases r with
    | cons b r =>
    cases r with
    | cons c r =>
    cases r
    exact ⟨_, .cons a (.cons b (.cons c .nil)), BindsTo.of_eq rfl⟩
  case hkind => exact rfl
  case hnd => decide
  case hcn => decide
  case hco => exact rfl
  case hgen => exact rfl
  case hk => exact rfl
  case hb =>
    intro L ft fd fl
    refine JS_delT (fun h T => T) rfl ⟨memL, ft, fd, fl⟩ (J_name rfl) (calls_del (fun h T => T) (memR hlX) hs (pins_len _ hx) hp) ?_
    refine JS_appendT (d := lineA (x, y)) (fun h T => T) rfl memL ft fd fl (J_tuple (JL_cons (J_conv (b := true) (fun h T => T) rfl (J_name rfl) hx) (JL_cons (J_conv (b := false) (fun h T => T) rfl (J_name rfl) hy) JL_nil))) ?_ (JS_nil ⟨rfl, fun h T => ?_⟩)
    · rw [List.length_map]
      have : (othersOf ls (Txt.lower x)).length ≤ ls.length := List.length_filter_le _ _
      omega
    · rw [List.map_append]; exact T
end
end Mine
end -- W3

section -- W4
open PySem PySem.W PyProof.Rows PySem.Calls
set_option maxRecDepth 100000
set_option maxHeartbeats 400000
namespace Mine
/-- what setdefault leaves, and gives -/
noncomputable def dfltOf (ls : List Ln) (x y : Str) : List Ln := match linesOf ls (Txt.lower x) with | [] => ls ++ [(x, y)] | _ :: _ => ls
noncomputable def dfltV (ls : List Ln) (x y : Str) : Str := match linesOf ls (Txt.lower x) with | [] => y | kv :: _ => kv.2
section
variable {C : Cx} {n : Nat} {I : Heap → Prop} {ρ : List (Str × AV)}
theorem JB_isNone {l : Expr} {pos p : Pos} {k : Nat} (hl : J C n I ρ l .none) : JB C n I ρ (.Compare l [.Is] [.Constant .none k p] pos) true :=
  JB_cmp hl J_none (fun s x y Q E P r₁ r₂ hQ => by cases r₁; cases r₂; exact wpAny_is_self rfl (hQ _ _ (keeps_refl s) (.bool _))) rfl
theorem JB_isNoneS {l : Expr} {pos p : Pos} {k : Nat} {x : Str} (hl : J C n I ρ l (.str x)) : JB C n I ρ (.Compare l [.Is] [.Constant .none k p] pos) false :=
  JB_cmp hl J_none (fun s x y Q E P r₁ r₂ hQ => by cases r₁; cases r₂; exact is_str_none (hQ _ _ (keeps_refl s) (.bool _))) rfl
theorem JB_isNotNoneS {l : Expr} {pos p : Pos} {k : Nat} {x : Str} (hl : J C n I ρ l (.str x)) : JB C n I ρ (.Compare l [.IsNot] [.Constant .none k p] pos) true :=
  JB_cmp hl J_none (fun s x y Q E P r₁ r₂ hQ => by cases r₁; cases r₂; exact wpAny_isNot_other rfl (by intro q; cases q) (hQ _ _ (keeps_refl s) (.bool _))) rfl
theorem fm_get (w : World) : findIn (HK w.params) (.ref 175) "get" = some (some (.ref 122)) := by kernel_rfl
theorem fn_get (w : World) : isFn (HK w.params) (.ref 122) = true := by kernel_rfl
theorem kp_get (w : World) : keepIn (HK w.params) (.ref 122) = true := by kernel_rfl
set_option maxHeartbeats 1000000 in
theorem calls_dflt {t dx l : Addr} {ls : List Ln} {x y : Str} (hI : ∀ h, I h → Tab C.X t dx l (ls.map lineA) h) (hlX : l ∈ C.X) (hs : Short ls) (hx : x ∈ pins) (hp : Txt.lower x ∈ pins) (hy : y ∈ vals) :
    CallsW C (n + 3) I ρ (.ref 165) [.at t, .str x, .str y] t dx l ((dfltOf ls x y).map lineA) (.str (dfltV ls x y)) := by
  have hz := hs.1
  refine' calls_tabW (xs := ["self", "name", "value"]) (fs := [.at t, .str x, .str y]) hI hlX ?ho ?hcd ?hbind rfl ?hkind ?hnd ?hcn ?hco ?hgen ?hk ?hb
  case ho => (unfold HK fragOf; k_is)
  case hcd => (unfold HK fragOf; k_is)
  case hbind =>
    intro s vs _ r
    cases r with
    | cons a r =>
    cases r with
    | cons b r =>
    cases r with
    | cons c r =>
    cases r
    exact ⟨_, .cons a (.cons b (.cons c .nil)), BindsTo.of_eq rfl⟩
  case hkind => exact rfl
  case hnd => decide
  case hcn => decide
  case hco => exact rfl
  case hgen => exact rfl
  case hk => exact rfl
  case hb =>
    intro L ft fd fl
    refine JS_assign (J_methT (fun h T => T) rfl (JL_cons (J_name rfl) JL_nil) (calls_get (fun h T => T) hs (pins_len _ hx) hp) (fm_get _) (fn_get _) (kp_get _)) (.loc rfl) ?_
    have e1 : getD' ls (Txt.lower x) = (match linesOf ls (Txt.lower x) with | [] => .none | kv :: _ => .str kv.2) := rfl
    have e2 : dfltOf ls x y = (match linesOf ls (Txt.lower x) with | [] => ls ++ [(x, y)] | _ :: _ => ls) := rfl
    have e3 : dfltV ls x y = (match linesOf ls (Txt.lower x) with | [] => y | kv :: _ => kv.2) := rfl
    rw [e1, e2, e3]
    cases linesOf ls (Txt.lower x) with
    | nil =>
      dsimp only
      refine JS_if (Mid := PostW _ t dx l ((ls ++ [(x, y)]).map lineA) (.str y)) (JB_isNone (J_name rfl)) (fun _ => ?_) (fun q => nomatch q) (fun I' ρ' h => nomatch h.1) (fun I' d h => h)
      refine JS_appendT (d := lineA (x, y)) (fun h T => T) rfl memL ft fd fl (J_tuple (JL_cons (J_conv (b := true) (fun h T => T) rfl (J_name rfl) hx) (JL_cons (J_conv (b := false) (fun h T => T) rfl (J_name rfl) hy) JL_nil))) ?_ (JS_ret (J_name rfl) ⟨rfl, fun h T => ?_⟩)
      · rw [List.length_map]; omega
      · rw [List.map_append]; exact T
    | cons kv rest =>
      dsimp only
      exact JS_if (Mid := PostW _ t dx l (ls.map lineA) (.str kv.2)) (JB_isNoneS (J_name rfl)) (fun q => nomatch q) (fun _ => JS_ret (J_name rfl) ⟨rfl, fun h T => T⟩) (fun I' ρ' h => nomatch h.1) (fun I' d h => h)
end
end Mine
end -- W4

section -- W5
open PySem PySem.W PyProof.Rows PySem.Calls
set_option maxRecDepth 100000
set_option maxHeartbeats 400000
namespace Mine
/-- a table, an empty dict, a list of the frame's own -/
structure HI (X : List Addr) (t dx l : Addr) (ds : List AV) (p a : Addr) (es : List AV) (h : Heap) : Prop where
  tab : Tab X t dx l ds h
  dict : h.get? p = some (dictOf [] 0)
  own : OwnI X a es h
theorem HI.st {X : List Addr} {t dx l p a : Addr} {ds es : List AV} : ∀ h h', Kp h h' → HI X t dx l ds p a es h → HI X t dx l ds p a es h' := fun _ _ k T => ⟨Tab.st _ _ k T.tab, k _ _ T.dict, OwnI.st _ _ k T.own⟩
theorem HI.sf {X F : List Addr} {t dx l p a : Addr} {ds es : List AV} (s : ∀ b ∈ F, b ∈ X) (ht : t ∉ F) (hd : dx ∉ F) (hl : l ∉ F) (hp : p ∉ F) (ha : a ∉ F) : ∀ h h', KpIt F h h' → HI X t dx l ds p a es h → HI X t dx l ds p a es h' := fun _ _ k T =>
  ⟨Tab.sf s ht hd hl _ _ k T.tab, k _ _ hp rfl T.dict, OwnI.sf s ha _ _ k T.own⟩
structure TP (X : List Addr) (t dx l : Addr) (ds : List AV) (p : Addr) (h : Heap) : Prop where
  tab : Tab X t dx l ds h
  dict : h.get? p = some (dictOf [] 0)
theorem TP.st {X : List Addr} {t dx l p : Addr} {ds : List AV} : ∀ h h', Kp h h' → TP X t dx l ds p h → TP X t dx l ds p h' := fun _ _ k T => ⟨Tab.st _ _ k T.tab, k _ _ T.dict⟩
theorem Tab.butA {X : List Addr} {t dx l a : Addr} {ds : List AV} {h h' : Heap} (T : Tab X t dx l ds h) (k : KpBut [a] h h') (hX : a ∈ X) (h1 : a ≠ t) (h2 : a ≠ dx) (h3 : a ≠ l) : Tab X t dx l ds h' := by
  have hs : ∀ b o, a ≠ b → h.get? b = some o → h'.get? b = some o := fun b o nb e => k b o (by simpa using Ne.symm nb) e
  obtain ⟨x, y, z, e⟩ := T.di
  obtain ⟨vs, m, el, r⟩ := T.li
  exact ⟨hs _ _ h1 T.ob, ⟨x, y, z, hs _ _ h2 e⟩, vs, m, hs _ _ h3 el, r.mono (k.mono fun b m => List.mem_singleton.mp m ▸ hX)⟩
section
variable {C : Cx} {n : Nat} {I : Heap → Prop} {ρ : List (Str × AV)}
/-- parts = [] -/
theorem JS_ownP {x : Str} {xp lp pos : Pos} {rest : List Stmt} {t dx l p : Addr} {ds ds' : List AV} (hx : Own C x) (off : Off C t dx l) (hp : p ∉ frA C.env)
    (k : ∀ a, a ∉ frA C.env → a ≠ t → a ≠ dx → a ≠ l → a ≠ p → JS (ownC C a) n (HI (a :: C.X) t dx l ds p a []) ((x, .at a) :: ρ) rest (PostW (a :: C.X) t dx l ds' .none))
    (hs : swapsWith (.List [] lp) (some (.Name x xp)) pos.line C.env = pure false := by rfl) : JS C n (TP C.X t dx l ds p) ρ (.Assign [.Name x xp] (.List [] lp) pos :: rest) (PostW C.X t dx l ds' .none) := by
  refine ⟨fun s P Q E hN hR => ?_⟩
  refine wpAny_execs_cons (wpAny_Assign_Name ?_ hs)
  refine List_ (spliced_none (wpAny_newObj_type ?_))
  generalize ha : s.heap.objs.size = a
  have miss : s.heap.get? a = none := ha ▸ none_size _
  have haX : a ∉ C.X := P.toPre.fresh miss
  have haF : a ∉ frA C.env := fun m => haX (P.ok.sub _ (P.fw.inW _ m))
  generalize hh : s.heap.push { cls := .type "list", dict := none, data := .seq ([] : List Value).toArray } = h₁
  have at₁ : h₁.get? a = some (lstO [] 0) := by rw [← hh, ← ha]; exact Heap.get?_push_size _ rfl
  have kp : Kp s.heap h₁ := hh ▸ Kp.push _
  have h0 : C.H0.get? a = none := by
    cases q : C.H0.get? a with
    | none => rfl
    | some o => have := P.old a o q; rw [miss] at this; cases this
  have reX : ∀ {v d}, Rd C.X s.heap v d → Rd (a :: C.X) h₁ v d := fun r => (r.re fun b m => (List.mem_cons.mp m).elim (fun q => .inr (q ▸ miss)) .inl).mono kp.but
  have T := P.inv.tab
  obtain ⟨_, _, _, edx⟩ := T.di
  obtain ⟨_, _, el, _⟩ := T.li
  have ne : ∀ {b o}, s.heap.get? b = some o → a ≠ b := fun e q => by rw [← q, miss] at e; cases e
  have P₁ : SP (ownC C a) n (HI (a :: C.X) t dx l ds p a []) ρ h₁ := by
    refine ⟨⟨⟨P.ok.K, P.ok.T, P.ok.hh, P.ok.depth, P.ok.units, P.ok.kind, P.ok.glob, P.ok.blt, ?_, ?_⟩, P.old.trans kp, ?_, ⟨Tab.st _ _ kp (T.re fun b m => (List.mem_cons.mp m).elim (fun q => .inr (q ▸ miss)) .inl), kp _ _ P.inv.dict, [], 0, at₁, .nil⟩, HI.st, ?_⟩, ⟨?_, ?_, ?_, P.fw.inj⟩, HI.sf (fun b m => .tail _ (P.ok.sub _ (P.fw.inW _ m))) off.t off.d off.l hp haF⟩
    · intro b m
      rcases List.mem_cons.mp m with rfl | m
      · exact h0
      · exact P.ok.low b m
    · intro b m
      rcases List.mem_cons.mp m with rfl | m
      · exact .head _
      · exact .tail _ (P.ok.sub _ m)
    · intro b m
      rcases List.mem_cons.mp m with rfl | m
      · exact ⟨_, at₁⟩
      · obtain ⟨o, e⟩ := P.ex b m; exact ⟨o, kp _ _ e⟩
    · intro y d e
      obtain ⟨v, lk, r⟩ := P.vars y d e
      exact ⟨v, lk.kp kp, reX r⟩
    · obtain ⟨m, hm⟩ := P.fw.ns; exact ⟨m, hm.keeps kp⟩
    · exact fun b m => .tail _ (P.fw.inW _ m)
    · intro y c e; obtain ⟨v, hv⟩ := P.fw.cell y c e; exact ⟨v, Heap.IsCell.kp kp hv⟩
  have hx' : Own (ownC C a) x := hx
  refine store (C := ownC C a) P₁ hx' (.at a) fun s₂ k₂ P₂ => ?_
  obtain ⟨h₂, tk₂, rfl, kk⟩ := k₂
  have back : ∀ s', Ch (a :: C.W) ⟨h₂, s.gens, s.drawn, tk₂, s.os⟩ s' → Ch C.W s s' := by
    rintro s' ⟨h', tk', rfl, k⟩
    refine ⟨h', tk', rfl, fun b o nb e => k b o (fun m => (List.mem_cons.mp m).elim (fun q => by rw [q, miss] at e; cases e) nb) (kk b o (fun m => nb (P.fw.inW _ m)) (kp b o e))⟩
  have fin : ∀ I' ρ' (s' : Shared), (∀ h, I' h → Tab (a :: C.X) t dx l ds' h) → SP (ownC C a) n I' ρ' s'.heap → SP C n (Tab C.X t dx l ds') [] s'.heap := fun I' ρ' s' hT P' =>
    ⟨⟨P.ok, P'.old, fun b m => P'.ex b (.tail _ m), (hT _ P'.inv).re fun b m => .inl (.tail _ m), Tab.st, fun _ _ h => nomatch h⟩, ⟨P'.fw.ns, P.fw.inW, P'.fw.cell, P.fw.inj⟩, Tab.sf (fun b m => P.ok.sub _ (P.fw.inW _ m)) off.t off.d off.l⟩
  refine (k a haF (ne T.ob) (ne edx) (ne el) (ne P.inv.dict)).run _ P₂ _ _ (fun I' ρ' s' p c P' => ?_) fun I' ρ' d v s' p c P' r => ?_
  · exact hN (Tab C.X t dx l ds') [] s' ⟨rfl, fun h T => T⟩ (back s' c) (fin _ _ _ p.2 P')
  · obtain ⟨rfl, hT⟩ := p
    cases r
    exact hR (Tab C.X t dx l ds') [] .none .none s' ⟨rfl, fun h T => T⟩ (back s' c) (fin _ _ _ hT P') .none
/-- parts.append(e) -/
theorem JS_appendP {x : Str} {xp ap cp pos : Pos} {e : Expr} {rest : List Stmt} {t dx l p a : Addr} {d : AV} {ds es : List AV} {Post : Out → Prop} (hx : ρ.lookup x = some (.at a)) (ha : a ∈ C.W) (haF : a ∉ frA C.env) (ht : t ∉ frA C.env) (hdx : dx ∉ frA C.env) (hlF : l ∉ frA C.env) (hp : p ∉ frA C.env) (h1 : a ≠ t) (h2' : a ≠ dx) (h3 : a ≠ l) (h4 : a ≠ p) (he : J C n (HI C.X t dx l ds p a es) ρ e d) (hz : es.length ≤ 1000)
    (k : JS C n (HI C.X t dx l ds p a (es ++ [d])) ρ rest Post) (hd : (x == ("__debug__" : Str)) = false := by decide) (hl : (ap.endLine == cp.line) = true := by rfl) (h2 : W.isStarred e = false := by rfl)
    (hi : interactive C.env = false := by rfl) : JS C n (HI C.X t dx l ds p a es) ρ (.Expr (.Call (.Attribute (.Name x xp) "append" ap) [e] [] cp) pos :: rest) Post := by
  refine ⟨fun s P Q E hN hR => ?_⟩
  refine wpAny_execs_cons (wpAny_Expr ?_ hi rfl)
  refine ev_meth ((J_name hx hd).run s P.toPre _ _ fun v s₁ k₁ r₁ => ?_) (base_of rfl) (form0 (args := [e]) (by rw [List.any_cons, h2]; rfl) (Nat.le_of_ble_eq_true rfl)) hl
  cases r₁
  have P₁ := P.keeps k₁
  obtain ⟨vs, m, e₁, ra₁⟩ := P₁.inv.own
  refine getMethod_builtin (T := "list") ⟨_, e₁, rfl⟩ F.plainAttrs_list F.slot_list_append F.type_list_append (fun b q => by cases q; exact ⟨_, e₁, rfl⟩) ?_
  refine callWith_method1 ((JL_cons he JL_nil h2).run cp s₁ P₁.toPre _ _ fun ws s₂ k₂ r₂ => ?_) (star_cons h2) rfl
  cases r₂ with
  | cons r q =>
  cases q
  have P₂ := P₁.keeps k₂
  obtain ⟨vs₂, m₂, e₂, ra₂⟩ := P₂.inv.own
  have hsz : vs₂.toArray.size ≤ sizeLine := by rw [List.size_toArray, ra₂.length]; exact Nat.le_trans hz (by decide)
  refine wpAny_list_append_plain (hsz := hsz) ⟨m₂, e₂⟩ fun h' hl' hs' => ?_
  dsimp only
  have haX := P.ok.sub _ ha
  have kX : KpBut C.X s₂.heap h' := fun b o nb e => (hs'.2 b fun q => nb (q ▸ haX)).trans e
  have ka : KpBut [a] s₂.heap h' := fun b o nb e => (hs'.2 b fun q => nb (q ▸ .head _)).trans e
  obtain ⟨m', e'⟩ := hl'
  have hI : HI C.X t dx l ds p a (es ++ [d]) h' := ⟨P₂.inv.tab.butA ka haX h1 h2' h3, (hs'.2 _ (Ne.symm h4)).trans P₂.inv.dict, vs₂ ++ [_], m', by simpa using e', (ra₂.mono kX).append (.cons (r.mono kX) .nil)⟩
  have P₃ := P₂.upd ka ⟨_, e'⟩ haX haF hI HI.st (HI.sf (fun b m => P.ok.sub _ (P.fw.inW _ m)) ht hdx hlF hp haF)
  have kk : Ch C.W s { s₂ with heap := h' } := ((Ch.of k₁).trans (Ch.of k₂)).trans ⟨h', s₂.toks, rfl, fun b o nb e => ka b o (fun m => nb (List.mem_singleton.mp m ▸ ha)) e⟩
  exact k.run _ P₃ _ _ (fun I' ρ' s' p c => hN I' ρ' s' p (kk.trans c)) fun I' ρ' d v s' p c => hR I' ρ' d v s' p (kk.trans c)
/-- for .. in params.items(), none of which there is -/
theorem JS_forP {target : Expr} {x : Str} {xp ap cp pos : Pos} {body rest : List Stmt} {p : Addr} {Post : Out → Prop} (hI : ∀ h, I h → h.get? p = some (dictOf [] 0)) (hsm : (p == sysModules) = false) (hx : ρ.lookup x = some (.at p)) (k : JS C n I ρ rest Post)
    (hd : (x == ("__debug__" : Str)) = false := by decide) (hl : (ap.endLine == cp.line) = true := by rfl) (hs : ∀ v, foldedSetIterable (.Call (.Attribute (.Name x xp) "items" ap) [] [] cp) C.env v = pure v := by intro _; rfl) :
    JS C n I ρ (.For target (.Call (.Attribute (.Name x xp) "items" ap) [] [] cp) body [] pos :: rest) Post := by
  refine ⟨fun s P Q E hN hR => ?_⟩
  refine wpAny_execs_cons (wpAny_For ?_ hs)
  refine ev_meth ((J_name hx hd).run s P.toPre _ _ fun v s₁ k₁ r₁ => ?_) (base_of rfl) (form0 (args := []) rfl (by decide)) hl
  cases r₁
  have P₁ := P.keeps k₁
  have e₁ := hI _ P₁.inv
  refine getMethod_builtin (T := "dict") ⟨_, e₁, rfl⟩ F.plainAttrs_dict F.slot_dict_items F.type_dict_items (fun b q => by cases q; exact ⟨_, e₁, rfl⟩) ?_
  have hD : ∀ h : Heap, h.get? p = some (dictOf [] 0) → h.DictAt (strKind PR C.w) p [] 0 := fun h e => ⟨_, _, e, ⟨rfl, rfl, rfl⟩, rfl, fun e m => by simp at m, .nil, .nil⟩
  refine callWith_method0 (call_meetsIn F.slot_dict_items ⟨_, e₁, rfl⟩ F.entry_dict_items (F.args_dict_items_1 _) (meets_dict_items (strKind PR C.w) p hsm) ⟨⟨[], (hD _ e₁).dictOf⟩, ?_⟩)
  have kp₂ : Kp s₁.heap (s₁.heap.push { cls := .type "dict_items", data := .fields #[.ref p] }) := Kp.push _
  show wpAny (model PR C.w) C.A (pyIter (.ref s₁.heap.objs.size)) _ E _
  refine wpAny_pyIter_items (knd := strKind PR C.w) (d := p) (kvs := []) (ep := 0) ⟨_, Heap.get?_push_size _ rfl, rfl, rfl⟩ (hD _ (kp₂ _ _ e₁)) ?_
  dsimp only
  generalize hh₂ : s₁.heap.push { cls := .type "dict_items", data := .fields #[.ref p] } = h₂ at kp₂ ⊢
  have kp₃ : Kp h₂ (h₂.push { cls := .type "dict_itemiterator", data := .fields #[.none, .bool false, .ref p, .int 0 0, .int ([] : List (Str × Value)).length 0, .int (0 : Nat) 0, .none, .none] }) := Kp.push _
  have missI : h₂.get? h₂.objs.size = none := none_size _
  have atI := Heap.get?_push_size h₂ (o := { cls := .type "dict_itemiterator", data := .fields #[.none, .bool false, .ref p, .int 0 0, .int ([] : List (Str × Value)).length 0, .int (0 : Nat) 0, .none, .none] }) rfl
  generalize hh₃ : h₂.push { cls := .type "dict_itemiterator", data := .fields #[.none, .bool false, .ref p, .int 0 0, .int ([] : List (Str × Value)).length 0, .int (0 : Nat) 0, .none, .none] } = h₃ at kp₃ atI ⊢
  refine codeAny_forLoop_any (fun k s' => s' = { s₁ with heap := h₃ }) ?_ 0 rfl
  rintro m s' rfl
  refine wpAny_pyNext_items_end (knd := strKind PR C.w) (kvs := []) P.ok.hh atI (hD _ (kp₃ _ _ (kp₂ _ _ e₁))) rfl fun h' he => ?_
  dsimp only at he ⊢
  refine wpAny_execs_nil ?_
  have kk : Kp s₁.heap h' := fun b o e => he b o (fun q => by have := kp₂ _ _ e; rw [q, missI] at this; cases this) (kp₃ _ _ (kp₂ _ _ e))
  have P₃ := P₁.kp kk
  have cc : Ch C.W s { s₁ with heap := h' } := (Ch.of k₁).trans (Ch.of (keeps_h' s₁ kk))
  exact k.run _ P₃ _ _ (fun I' ρ' s' p c => hN I' ρ' s' p (cc.trans c)) fun I' ρ' d v s' p c => hR I' ρ' d v s' p (cc.trans c)
/-- sep.join(parts), one part -/
theorem J_join1 {x : Str} {xp ap pos p : Pos} {k : Nat} {sep y : Str} {X : List Addr} {a : Addr} (hI : ∀ h, I h → OwnI X a [.str y] h) (hx : ρ.lookup x = some (.at a)) (hy : Builtin.Str.tooLong (([y] : List Str).toArray.foldl (· + ·.length + sep.length) 0) = false)
    (hd : (x == ("__debug__" : Str)) = false := by decide) (hl : (ap.endLine == pos.line) = true := by rfl) : J C n I ρ (.Call (.Attribute (.Constant (.str sep) k p) "join" ap) [.Name x xp] [] pos) (.str y) := by
  refine ⟨fun s P Q E hQ => ?_⟩
  refine ev_meth (J_str.run s P _ _ fun v s₁ k₁ r₁ => ?_) (base_of rfl) (form0 (args := [_]) rfl (Nat.le_of_ble_eq_true rfl)) hl
  cases r₁
  have P₁ := P.keeps k₁
  refine GM.join ?_
  refine callWith_method1 ((JL_cons (J_name hx hd) JL_nil).run pos s₁ P₁ _ _ fun ws s₂ k₂ r₂ => ?_) (star_cons rfl) rfl
  cases r₂ with
  | cons r q =>
  cases q
  cases r
  obtain ⟨vs, m, ea, ra⟩ := hI _ (P₁.keeps k₂).inv
  cases ra with
  | cons r q =>
  cases q
  cases r
  rename_i tk
  refine call_meets F.slot_str_join (typeIs_str _ _ _) F.entry_str_join (F.args_str_join_2 _ _) (meets_str_join_list sep _ a [(y, tk)] hy) ⟨⟨_, ea, rfl, _, rfl⟩, ?_⟩
  exact hQ _ _ (keeps_trans k₁ k₂) (.str _ _)
theorem vals_join : ∀ y ∈ vals, Builtin.Str.tooLong (([y] : List Str).toArray.foldl (· + ·.length + ("; " : Str).length) 0) = false := by decide +kernel
end
end Mine
end -- W5

section -- W6
open PySem PySem.W PyProof.Rows PySem.Calls
set_option maxRecDepth 100000
set_option maxHeartbeats 1000000
namespace Mine
/-- when the part is laid -/
noncomputable def AddMid (X : List Addr) (t dx l : Addr) (ls : List Ln) (p a : Addr) (x y : Str) : Out → Prop
  | .next I' ρ' => I' = HI X t dx l (ls.map lineA) p a [.str y] ∧ List.lookup ("self" : Str) ρ' = some (.at t) ∧ List.lookup ("_name" : Str) ρ' = some (.str x) ∧ List.lookup ("_params" : Str) ρ' = some (.at p) ∧ List.lookup ("parts" : Str) ρ' = some (.at a)
  | .ret _ _ => False
section
variable {C : Cx} {n : Nat} {I : Heap → Prop} {ρ : List (Str × AV)}
theorem JS_ifC {e : Expr} {body orelse rest : List Stmt} {pos : Pos} {b : Bool} {Post : Out → Prop} {Mid : Cx → Out → Prop} (h : JB C n I ρ e b) (h1 : b = true → JS C n I ρ body (Mid C)) (h2 : b = false → JS C n I ρ orelse (Mid C))
    (hn : ∀ I' ρ', Mid C (.next I' ρ') → JS C n I' ρ' rest Post) (hr : ∀ I' d, Mid C (.ret I' d) → Post (.ret I' d)) : JS C n I ρ (.If e body orelse pos :: rest) Post := JS_if h h1 h2 hn hr
theorem big_size {h : Heap} {w : World} (K : (HK w.params).In h) : 1 < h.objs.size := by
  obtain ⟨o, e⟩ : ∃ o, (HK w.params).lookup 175 = some o := by
    have : (clsIn (HK w.params) 175).isSome = true := by kernel_rfl
    unfold clsIn at this
    cases q : (HK w.params).lookup 175 with
    | none => rw [q] at this; cases this
    | some o => exact ⟨o, rfl⟩
  have := Heap.lt_size (K _ _ e)
  exact Nat.lt_trans (by decide) this
theorem calls_tabP {f : Addr} {name qual : Str} {params : Arguments} {body : List Stmt} {scope : Scope} {dV kV doc pm cdv ct oc : Value} {an od : Option Addr} {osl : Array (Option Value)} {x1 x2 x3 x4 : Str} {d1 d2 d3 : AV} {t dx l : Addr} {ds ds' : List AV}
    (hI : ∀ h, I h → Tab C.X t dx l ds h) (hlX : l ∈ C.X)
    (ho : (HK C.w.params).lookup f = some ⟨oc, od, .func (fnX name qual params body scope [] dV kV doc pm an cdv ct), osl⟩) (hcd : codeIn (HK C.w.params) cdv qual = true)
    (hbind : ∀ a b c, bindArgs (fnX name qual params body scope [] dV kV doc pm an cdv ct) ⟨[a, b, c], []⟩ = (alloc (dictOf [] 0) >>= fun d => pure [(x1, a), (x2, b), (x3, c), (x4, .ref d)]))
    (hkind : ([x1, x2, x3, x4].all fun y => scope.names.lookup y == some .local || scope.names.lookup y == some .cell) = true) (hnd : [x1, x2, x3, x4].Nodup) (hcn : ((cellsFrom 0 scope.names []).map (·.1)).Nodup)
    (hco : scope.isCoroutine = false) (hgen : scope.isGenerator = false) (hk : scope.kind = .function)
    (hb : ∀ L p, (p == sysModules) = false → t ∉ frA (envOfC qual scope L f cdv) → dx ∉ frA (envOfC qual scope L f cdv) → l ∉ frA (envOfC qual scope L f cdv) → p ∉ frA (envOfC qual scope L f cdv) → JS (callC C [l] qual scope L f cdv) n (TP (frA (envOfC qual scope L f cdv) ++ C.X) t dx l ds p) [(x1, d1), (x2, d2), (x3, d3), (x4, .at p)] body (PostW (frA (envOfC qual scope L f cdv) ++ C.X) t dx l ds' .none)) : CallsW C (n + 1) I ρ (.ref f) [d1, d2, d3] t dx l ds' .none := by
  refine ⟨fun s vs Q E P r hQ => ?_⟩
  cases r with
  | cons ra r =>
  cases r with
  | cons rb r =>
  cases r with
  | cons rc r =>
  cases r
  have T := hI _ P.inv
  generalize hp : s.heap.objs.size = p
  have hsm : (p == sysModules) = false := by
    have := big_size P.K
    rw [hp] at this
    exact beq_eq_false_iff_ne.mpr (Nat.ne_of_gt this)
  have kp : Kp s.heap (s.heap.push (dictOf [] 0)) := Kp.push _
  have atp : (s.heap.push (dictOf [] 0)).get? p = some (dictOf [] 0) := by rw [← hp]; exact Heap.get?_push_size _ rfl
  have hal : ∀ (M : Model) (A : Around) (E : Value → Shared → Prop) (Q : List (Str × Value) → Shared → Prop) (g : Addr → List (Str × Value)), Q (g p) { s with heap := s.heap.push (dictOf [] 0) } → wpAny M A (alloc (dictOf [] 0) >>= fun d => pure (g d)) Q E s := fun M A E Q g h => by
    subst hp; exact wpAny_bind (wpAny_alloc (wpAny_pure h))
  generalize hB : s.heap.push (dictOf [] 0) = hb' at kp atp hal
  have TB : Tab C.X t dx l ds hb' := Tab.st _ _ kp T
  have miss := fr_miss (h := hb') (qual := qual) (scope := scope) (f := f) (cdv := cdv)
  have hx : ∀ {a o}, hb'.get? a = some o → a ∉ frA (envOfC qual scope hb'.objs.size f cdv) := fun e m => by rw [miss _ m] at e; cases e
  obtain ⟨_, _, _, edx⟩ := TB.di
  obtain ⟨_, _, el, _⟩ := TB.li
  have f1 := hx TB.ob
  have f2 := hx edx
  have f3 := hx el
  have f4 := hx atp
  refine wpAny_call ?_
  refine enterA (sB := { s with heap := hb' }) (binds := [(x1, _), (x2, _), (x3, _), (x4, .ref p)]) (W0 := [l]) (I0 := TP (frA (envOfC qual scope hb'.objs.size f cdv) ++ C.X) t dx l ds p) (ρ0 := [(x1, d1), (x2, d2), (x3, d3), (x4, .at p)]) (Post := PostW (frA (envOfC qual scope hb'.objs.size f cdv) ++ C.X) t dx l ds' .none) P ho hcd (keeps_h' s kp) ?_ ?_ ?_ hcn hco hgen hk
    (.cons (ra.mono kp.but) (.cons (rb.mono kp.but) (.cons (rc.mono kp.but) (.cons (.at _) .nil)))) ⟨TB.re fun a m => (List.mem_append.mp m).elim (fun m => .inr (miss _ m)) .inl, atp⟩ TP.st ?_ (fun a m => List.mem_singleton.mp m ▸ hlX) ?_ ?_ ?_
  · intro M A E Q h
    rw [hbind]
    exact hal M A E Q (fun d => [(x1, _), (x2, _), (x3, _), (x4, .ref d)]) h
  · simpa using hkind
  · exact hnd
  · rintro L h h' rfl k ⟨a, b⟩
    exact ⟨Tab.sf (fun b m => List.mem_append.mpr (.inl m)) f1 f2 f3 h h' k a, k _ _ f4 rfl b⟩
  · rintro L rfl
    exact hb _ p hsm f1 f2 f3 f4
  · rintro I' e v s' ⟨he, hT⟩ c hI' r
    subst he
    exact hQ v s' c ((hT _ hI').re fun a m => .inl (List.mem_append.mpr (.inr m))) r
  · rintro I' ρ' s' ⟨he, hT⟩ c hI'
    exact hQ .none s' c ((hT _ hI').re fun a m => .inl (List.mem_append.mpr (.inr m))) .none
theorem calls_add {t dx l : Addr} {ls : List Ln} {x y : Str} (hI : ∀ h, I h → Tab C.X t dx l (ls.map lineA) h) (hlX : l ∈ C.X) (hs : Short ls) (hx : x ∈ pins) (hy : y ∈ vals) :
    CallsW C (n + 2) I ρ (.ref 172) [.at t, .str x, .str y] t dx l ((ls ++ [(x, y)]).map lineA) .none := by
  have hz := hs.1
  refine' calls_tabP (x1 := "self") (x2 := "_name") (x3 := "_value") (x4 := "_params") hI hlX ?ho ?hcd ?hbind ?hkind ?hnd ?hcn ?hco ?hgen ?hk ?hb
  case ho => (unfold HK fragOf; k_is)
  case hcd => (unfold HK fragOf; k_is)
  case hbind => exact fun _ _ _ => rfl
  case hkind => exact rfl
  case hnd => decide
  case hcn => decide
  case hco => exact rfl
  case hgen => exact rfl
  case hk => exact rfl
  case hb =>
    intro L p hsm ft fd fl fp
    refine JS_ownP (.loc rfl) ⟨memL, ft, fd, fl⟩ fp fun a fa n1 n2 n3 n4 => ?_
    refine JS_ifC (Mid := fun C' => AddMid C'.X t dx l ls p a x y) (JB_isNotNoneS (J_name rfl)) (fun _ => ?_) (fun q => nomatch q) ?_ (fun I' d h => h.elim)
    · refine JS_assign (d := .str y) (J_conv (b := false) (fun h T => T.tab) rfl (J_name rfl) hy) (.loc rfl) ?_
      exact JS_appendP rfl (.head _) fa ft fd fl fp n1 n2 n3 n4 (J_name rfl) (by decide) (JS_nil ⟨rfl, rfl, rfl, rfl, rfl⟩)
    · rintro I' ρ' ⟨rfl, h1, h2, h3, h4⟩
      refine JS_forP (fun h T => T.dict) hsm h3 ?_
      refine JS_appendT (d := lineA (x, y)) (fun h T => T.tab) h1 (.tail _ memL) ft fd fl (J_tuple (JL_cons (J_conv (b := true) (fun h T => T.tab) h1 (J_name h2) hx) (JL_cons (J_join1 (fun h T => T.own) h4 (vals_join y hy)) JL_nil))) ?_ (JS_nil ⟨rfl, fun h T => ?_⟩)
      · rw [List.length_map]; omega
      · rw [List.map_append]; exact T
end
end Mine
end -- W6

section -- N1
open PySem PySem.W PyProof.Rows PySem.Calls
set_option maxRecDepth 100000
set_option maxHeartbeats 1000000
namespace Mine
/-- a new Headers, without its list -/
structure Raw (X : List Addr) (t dx l : Addr) (ds : List AV) (h : Heap) : Prop where
  ob : h.get? t = some (instObj 175 dx)
  di : h.get? dx = some (dictOf [] 0)
  li : OwnI X l ds h
theorem Raw.st {X : List Addr} {t dx l : Addr} {ds : List AV} : ∀ h h', Kp h h' → Raw X t dx l ds h → Raw X t dx l ds h' := fun _ _ k T => ⟨k _ _ T.ob, k _ _ T.di, OwnI.st _ _ k T.li⟩
theorem Raw.sf {X F : List Addr} {t dx l : Addr} {ds : List AV} (s : ∀ b ∈ F, b ∈ X) (ht : t ∉ F) (hd : dx ∉ F) (hl : l ∉ F) : ∀ h h', KpIt F h h' → Raw X t dx l ds h → Raw X t dx l ds h' := fun _ _ k T =>
  ⟨k _ _ ht rfl T.ob, k _ _ hd rfl T.di, OwnI.sf s hl _ _ k T.li⟩
theorem Raw.re {X Y : List Addr} {t dx l : Addr} {ds : List AV} {h : Heap} (k : ∀ a ∈ Y, a ∈ X ∨ h.get? a = Option.none) (T : Raw X t dx l ds h) : Raw Y t dx l ds h :=
  ⟨T.ob, T.di, let ⟨vs, n, e, r⟩ := T.li; ⟨vs, n, e, r.re k⟩⟩
section
variable {C : Cx} {n : Nat} {I : Heap → Prop} {ρ : List (Str × AV)}
theorem hd_setattr (w : World) : findIn (HK w.params) (.ref 175) "__setattr__" = some (some (.builtin "object.__setattr__")) := by kernel_rfl
theorem hd_over (w : World) : plainOver (HK w.params) 175 = true := by kernel_rfl
theorem hd_taker (w : World) : takerIn (HK w.params) 175 "_headers" = some none := by kernel_rfl
/-- all objects but two -/
noncomputable def others2 (h : Heap) (a b : Addr) : List (Addr × Obj) := (List.range h.objs.size).filterMap fun c => if c = a ∨ c = b then none else (h.get? c).map fun o => (c, o)
theorem others2_mem {h : Heap} {a b : Addr} {p : Addr × Obj} : p ∈ others2 h a b ↔ p.1 ≠ a ∧ p.1 ≠ b ∧ h.get? p.1 = some p.2 := by
  unfold others2
  rw [List.mem_filterMap]
  constructor
  · rintro ⟨c, hc, e⟩
    by_cases q : c = a ∨ c = b
    · rw [if_pos q] at e; cases e
    · rw [if_neg q] at e
      cases g : h.get? c with
      | none => rw [g] at e; cases e
      | some o =>
        rw [g] at e
        cases e
        exact ⟨fun x => q (.inl x), fun x => q (.inr x), g⟩
  · rintro ⟨h1, h2, e⟩
    refine ⟨p.1, List.mem_range.mpr (Heap.lt_size e), ?_⟩
    rw [if_neg (fun q => q.elim h1 h2), e]
    rfl
theorem setAttr_new {s : Shared} {t dx L : Addr} {m : Str → Option Value} {v : Value} {Q : Unit → Shared → Prop} {E : Value → Shared → Prop} (K : (HK C.w.params).In s.heap) (ht : s.heap.get? t = some (instObj 175 dx)) (hd' : s.heap.get? dx = some (dictOf [] 0)) (hL : s.heap.Ns L m) (hdL : dx ≠ L)
    (hQ : ∀ h' hs k j, (∀ b o, b ≠ dx → b ≠ L → s.heap.get? b = some o → h'.get? b = some o) → h'.Ns L m → h'.get? dx = some (dictOf [⟨hs, .str "_headers" k, v⟩] j) → Q () { s with heap := h', toks := s.toks + 2 }) :
    wpAny (model PR C.w) C.A (setAttr (.ref t) "_headers" v) Q E s := by
  have i : PySem.W.InstAt s.heap t (instObj 175 dx) 175 (some (dictOf [] 0)) := ⟨ht, rfl, rfl, hd'⟩
  refine set_plain K i (hd_setattr _) ?_
  have none0 : ∀ b, (({} : Heap)).get? b = none := fun b => by simp [Heap.get?]
  refine osa_dict (s := { s with toks := s.toks + 1 }) (h₀ := {}) (L := L) (m := m) (pre := []) (post := others2 s.heap dx L) (es := [⟨_, .str "_headers" (s.toks + 1), v⟩]) ⟨hL, fun b o e => ?_, Nat.zero_le _⟩ ?_ K i rfl (hd_over _) (hd_taker _) (hd_dict _) rfl (fun p hp => nomatch hp) ?_ (putName_dict ..) rfl (Nat.le_of_ble_eq_true rfl) fun h' F' N' => ?_
  · rw [none0] at e; cases e
  · intro p hp
    rw [List.nil_append] at hp
    rcases List.mem_cons.mp hp with rfl | hp
    · exact ⟨hd', hdL, none0 _⟩
    · obtain ⟨h1, h2, h3⟩ := others2_mem.mp hp
      exact ⟨h3, h2, none0 _⟩
  · exact fun p hp => (others2_mem.mp hp).1
  · rw [List.nil_append] at N'
    exact hQ h' _ _ _ (fun b o n1 n2 e => (N' (b, o) (.tail _ (others2_mem.mpr ⟨n1, n2, e⟩))).1) F'.ns (N' (dx, _) (.head _)).1
end
end Mine
end -- N1

section -- N2
open PySem PySem.W PyProof.Rows PySem.Calls
set_option maxRecDepth 100000
set_option maxHeartbeats 1000000
namespace Mine
section
variable {C : Cx} {n : Nat} {I : Heap → Prop} {ρ : List (Str × AV)}
theorem SP.updL {h h' : Heap} {I' : Heap → Prop} {dx : Addr} {m : Str → Option Value} (P : SP C n I ρ h) (hm : h.Ns C.env.locals m) (hm' : h'.Ns C.env.locals m) (hk : ∀ b o, b ≠ dx → b ≠ C.env.locals → h.get? b = some o → h'.get? b = some o) (hex : ∃ o, h'.get? dx = some o) (hX : dx ∈ C.X) (hF : dx ∉ frA C.env)
    (hI : I' h') (st : ∀ h h', Kp h h' → I' h → I' h') (sf : ∀ h h', KpIt (frA C.env) h h' → I' h → I' h') : SP C n I' ρ h' := by
  have hLX : C.env.locals ∈ C.X := P.ok.sub _ (P.fw.inW _ (.head _))
  have kX : KpBut C.X h h' := fun b o nb e => hk b o (fun q => nb (q ▸ hX)) (fun q => nb (q ▸ hLX)) e
  have hC : ∀ y c v, C.env.cells.lookup y = some c → h.IsCell c v → h'.IsCell c v := fun y c v e hv => cellAt hv fun o e' => hk _ o (fun q => hF (q ▸ .tail _ (List.mem_map.mpr ⟨(y, c), lookup_mem e, rfl⟩))) (cell_ne hm hv) e'
  refine ⟨⟨P.ok, fun b o e => kX b o (fun q => by have := P.ok.low b q; rw [e] at this; cases this) (P.old b o e), fun b mb => ?_, hI, st, fun y d e => ?_⟩, ⟨⟨m, hm'⟩, P.fw.inW, fun y c e => ?_, P.fw.inj⟩, sf⟩
  · by_cases q : b = dx
    · subst q; exact hex
    · by_cases q' : b = C.env.locals
      · obtain ⟨o, _, _, e, _⟩ := hm'; exact ⟨o, q' ▸ e⟩
      · obtain ⟨o, e⟩ := P.ex b mb; exact ⟨o, hk _ _ q q' e⟩
  · obtain ⟨v, lk, r⟩ := P.vars y d e
    refine ⟨v, ?_, r.mono kX⟩
    cases lk with
    | loc a b c => have := ns_one hm b; subst this; exact .loc a hm' c
    | cell a b c => exact .cell a b (hC _ _ _ b c)
    | free a z b c => exact .free a z b (hC _ _ _ b c)
  · obtain ⟨v, hv⟩ := P.fw.cell y c e; exact ⟨v, hC _ _ _ e hv⟩
/-- self._headers = e -/
theorem JS_setHdr {t dx l : Addr} {ds : List AV} {x : Str} {xp tp pos : Pos} {e : Expr} {rest : List Stmt} {Post : Out → Prop} (hI : ∀ h, I h → Raw C.X t dx l ds h) (hx : ρ.lookup x = some (.at t)) (he : J C n I ρ e (.at l)) (hW : dx ∈ C.W) (hT : t ∉ frA C.env) (hD : dx ∉ frA C.env) (hF : l ∉ frA C.env)
    (k : JS C n (Tab C.X t dx l ds) ρ rest Post) (hd' : (x == ("__debug__" : Str)) = false := by decide) (hs : swapsWith e (some (.Attribute (.Name x xp) "_headers" tp)) pos.line C.env = pure false := by rfl) : JS C n I ρ (.Assign [.Attribute (.Name x xp) "_headers" tp] e pos :: rest) Post := by
  refine ⟨fun s P Q E hN hR => ?_⟩
  refine wpAny_execs_cons (plainObj_wpAny_Assign_Attribute (he.run s P.toPre _ _ fun v s₁ k₁ r₁ => (J_name hx hd').run s₁ (P.keeps k₁).toPre _ _ fun o s₂ k₂ r₂ => ?_) hs)
  cases r₁
  cases r₂
  have P₂ := (P.keeps k₁).keeps k₂
  have R := hI _ P₂.inv
  obtain ⟨m, hm⟩ := P₂.fw.ns
  have hdL : dx ≠ C.env.locals := fun q => hD (q ▸ .head _)
  refine setAttr_new P₂.toPre.K R.ob R.di hm hdL fun h' hs' kk j hk hm' ed => ?_
  have hX : dx ∈ C.X := P.ok.sub _ hW
  have hLX : C.env.locals ∈ C.X := P.ok.sub _ (P.fw.inW _ (.head _))
  have kX : KpBut C.X s₂.heap h' := fun b o nb e => hk b o (fun q => nb (q ▸ hX)) (fun q => nb (q ▸ hLX)) e
  obtain ⟨vs, q, el, ra⟩ := R.li
  have T : Tab C.X t dx l ds h' := by
    refine ⟨hk _ _ (fun q => ?_) (fun q => hT (q ▸ .head _)) R.ob, ⟨_, _, _, ed⟩, vs, q, hk _ _ (fun q => ?_) (fun q => hF (q ▸ .head _)) el, ra.mono kX⟩
    · have := R.ob; rw [q, R.di] at this; exact absurd (congrArg Obj.cls (Option.some.inj this)) (show ¬ Value.type "dict" = Value.ref 175 by decide)
    · rw [q, R.di] at el; exact absurd (congrArg Obj.cls (Option.some.inj el)) (show ¬ Value.type "dict" = Value.type "list" by decide)
  have P₃ := P₂.updL hm hm' hk ⟨_, ed⟩ hX hD T Tab.st (Tab.sf (fun b m => P.ok.sub _ (P.fw.inW _ m)) hT hD hF)
  have cc : Ch C.W s { s₂ with heap := h', toks := s₂.toks + 2 } := (Ch.of k₁).trans ((Ch.of k₂).trans ⟨h', _, rfl, fun b o nb e => hk b o (fun q => nb (q ▸ hW)) (fun q => nb (q ▸ P.fw.inW _ (.head _))) e⟩)
  exact k.run _ P₃ _ _ (fun I' ρ' s' p c => hN I' ρ' s' p (cc.trans c)) fun I' ρ' d v s' p c => hR I' ρ' d v s' p (cc.trans c)
/-- if __debug__ -/
theorem JB_debug {pos : Pos} : JB C n I ρ (.Name "__debug__" pos) true := by
  refine ⟨fun s P Q E hQ => ?_⟩
  refine isTrue_plain (env := C.env) ?_ rfl
  show wpAny _ _ (do standAt pos; debugConstant) _ _ s
  refine wpAny_bind (wpAny_standAt ?_)
  unfold debugConstant
  exact wpAny_bind (wpAny_rule (wpAny_pure (wpAny_truthy_bool (hQ s (keeps_refl s)))))
theorem JB_isNotNoneA {l : Expr} {pos p : Pos} {k : Nat} {a : Addr} (hl : J C n I ρ l (.at a)) : JB C n I ρ (.Compare l [.IsNot] [.Constant .none k p] pos) true :=
  JB_cmp hl J_none (fun s x y Q E P r₁ r₂ hQ => by cases r₁; cases r₂; exact wpAny_isNot_other rfl (by intro q; cases q) (hQ _ _ (keeps_refl s) (.bool _))) rfl
theorem JB_isNotNoneN {l : Expr} {pos p : Pos} {k : Nat} (hl : J C n I ρ l .none) : JB C n I ρ (.Compare l [.IsNot] [.Constant .none k p] pos) false :=
  JB_cmp hl J_none (fun s x y Q E P r₁ r₂ hQ => by cases r₁; cases r₂; exact wpAny_isNot_self rfl (hQ _ _ (keeps_refl s) (.bool _))) rfl
/-- type(e) is not list -/
theorem JB_isNotList {e : Expr} {fp sp p pos : Pos} {a : Addr} {X : List Addr} {ds : List AV} (hI : ∀ h, I h → OwnI X a ds h) (he : J C n I ρ e (.at a)) (hk : C.env.kindOf "type" = some .globalImplicit := by rfl) (hk2 : C.env.kindOf "list" = some .globalImplicit := by rfl) (h2 : W.isStarred e = false := by rfl) :
    JB C n I ρ (.Compare (.Call (.Name "type" fp) [e] [] p) [.IsNot] [.Name "list" sp] pos) false := by
  refine ⟨fun s P Q E hQ => ?_⟩
  refine wpAny_isTrue_Compare1 (ev_type P he (T := "list") (fun s' v P' r => by cases r; obtain ⟨vs, m, e, _⟩ := hI _ P'.inv; exact ⟨_, e, rfl⟩) (by decide) hk h2 fun s₁ k₁ => ?_) rfl
  refine ev_builtin (P.keeps k₁) hk2 (no_list _) bt_list (by decide) (by decide) ?_
  exact wpAny_isNot_self rfl (wpAny_truthy_bool (hQ _ k₁))
end
end Mine
end -- N2

section -- N3
open PySem PySem.W PyProof.Rows PySem.Calls
set_option maxRecDepth 100000
set_option maxHeartbeats 1000000
namespace Mine
section
variable {C : Cx} {n : Nat} {I : Heap → Prop} {ρ : List (Str × AV)}
/-- how __init__ ends -/
noncomputable abbrev PostI (Y : List Addr) (t dx l : Addr) (ds : List AV) : Out → Prop := fun o => match o with
  | .next I' _ => ∀ h, I' h → Tab Y t dx l ds h
  | .ret _ _ => False
theorem calls_raw {f : Addr} {name qual : Str} {params : Arguments} {body : List Stmt} {scope : Scope} {dV kV doc pm cdv ct oc : Value} {an od : Option Addr} {osl : Array (Option Value)} {x1 x2 : Str} {t dx l : Addr} {ds : List AV} {s : Shared} {R : Result → Shared → Prop}
    (P : Pre C (n + 1) I ρ s.heap) (T : Raw C.X t dx l ds s.heap) (hdX : dx ∈ C.X)
    (ho : (HK C.w.params).lookup f = some ⟨oc, od, .func (fnX name qual params body scope [] dV kV doc pm an cdv ct), osl⟩) (hcd : codeIn (HK C.w.params) cdv qual = true)
    (hbind : ∀ (s : Shared) a b, (HK C.w.params).In s.heap → BindsTo s (fnX name qual params body scope [] dV kV doc pm an cdv ct) ⟨[a, b], []⟩ [(x1, a), (x2, b)])
    (hkind : ([x1, x2].all fun y => scope.names.lookup y == some .local || scope.names.lookup y == some .cell) = true) (hnd : [x1, x2].Nodup) (hcn : ((cellsFrom 0 scope.names []).map (·.1)).Nodup)
    (hco : scope.isCoroutine = false) (hgen : scope.isGenerator = false) (hk : scope.kind = .function)
    (hb : ∀ L, t ∉ frA (envOfC qual scope L f cdv) → dx ∉ frA (envOfC qual scope L f cdv) → l ∉ frA (envOfC qual scope L f cdv) → JS (callC C [dx] qual scope L f cdv) n (Raw (frA (envOfC qual scope L f cdv) ++ C.X) t dx l ds) [(x1, .at t), (x2, .at l)] body (PostI (frA (envOfC qual scope L f cdv) ++ C.X) t dx l ds))
    (hR : ∀ s', Ch [dx] s s' → Tab C.X t dx l ds s'.heap → R (.ok (.ret .none)) s') : codeAny (model PR C.w) C.A (.call (.ref f) ⟨[.ref t, .ref l], []⟩) R s := by
  have miss := fr_miss (h := s.heap) (qual := qual) (scope := scope) (f := f) (cdv := cdv)
  have hx : ∀ {a o}, s.heap.get? a = some o → a ∉ frA (envOfC qual scope s.heap.objs.size f cdv) := fun e m => by rw [miss _ m] at e; cases e
  obtain ⟨_, _, el, _⟩ := T.li
  have f1 := hx T.ob
  have f2 := hx T.di
  have f3 := hx el
  refine enterA (sB := s) (binds := [(x1, .ref t), (x2, .ref l)]) (W0 := [dx]) (I0 := Raw (frA (envOfC qual scope s.heap.objs.size f cdv) ++ C.X) t dx l ds) (ρ0 := [(x1, .at t), (x2, .at l)]) (Post := PostI (frA (envOfC qual scope s.heap.objs.size f cdv) ++ C.X) t dx l ds) P ho hcd (keeps_refl s) (hbind s _ _ P.K) (by simpa using hkind) hnd hcn hco hgen hk (.cons (.at _) (.cons (.at _) .nil))
    (T.re fun a m => (List.mem_append.mp m).elim (fun m => .inr (miss _ m)) .inl) Raw.st ?_ (fun a m => List.mem_singleton.mp m ▸ hdX) ?_ ?_ ?_
  · rintro L h h' rfl
    exact Raw.sf (fun b m => List.mem_append.mpr (.inl m)) f1 f2 f3 h h'
  · rintro L rfl
    exact hb _ f1 f2 f3
  · exact fun I' e v s' h => h.elim
  · intro I' ρ' s' hT c hI'
    exact hR s' c ((hT _ hI').re fun a m => .inl (List.mem_append.mpr (.inr m)))
theorem init_lst {t dx l : Addr} {ls : List Ln} {s : Shared} {R : Result → Shared → Prop} (P : Pre C (n + 2) I ρ s.heap) (T : Raw C.X t dx l (ls.map lineA) s.heap) (hdX : dx ∈ C.X) (hs : Short ls)
    (hR : ∀ s', Ch [dx] s s' → Tab C.X t dx l (ls.map lineA) s'.heap → R (.ok (.ret .none)) s') : codeAny (model PR C.w) C.A (.call (.ref 69) ⟨[.ref t, .ref l], []⟩) R s := by
  have hld : l ≠ dx := by
    rintro rfl
    obtain ⟨_, _, el, _⟩ := T.li
    rw [T.di] at el; exact absurd (congrArg Obj.cls (Option.some.inj el)) (show ¬ Value.type "dict" = Value.type "list" by decide)
  refine' calls_raw (x1 := "self") (x2 := "headers") P T hdX ?ho ?hcd ?hbind ?hkind ?hnd ?hcn ?hco ?hgen ?hk ?hb hR
  case ho => (unfold HK fragOf; k_is)
  case hcd => (unfold HK fragOf; k_is)
  case hbind =>
    intro s a b hK
    refine' binds_K hK rfl ?o ?s rfl ?h2
    case o => (unfold HK fragOf; k_is)
    case s => exact rfl
    case h2 => exact rfl
  case hkind => exact rfl
  case hnd => decide
  case hcn => decide
  case hco => exact rfl
  case hgen => exact rfl
  case hk => exact rfl
  case hb =>
    intro L ft fd fl
    refine JS_assign (d := .at l) (J_ifexp (JB_isNotNoneA (J_name rfl)) (fun _ => J_name rfl) (fun q => nomatch q)) (.loc rfl) ?_
    refine JS_ifC (Mid := fun C' o => match o with | .next I' ρ' => I' = Raw C'.X t dx l (ls.map lineA) ∧ List.lookup ("self" : Str) ρ' = some (.at t) ∧ List.lookup ("headers" : Str) ρ' = some (.at l) | .ret _ _ => False) (JB_isNotList (fun h T => T.li) (J_name rfl)) (fun q => nomatch q) (fun _ => JS_nil ⟨rfl, rfl, rfl⟩) ?_ (fun I' d h => h.elim)
    rintro I' ρ' ⟨rfl, h1, h2⟩
    refine JS_setHdr (fun h T => T) h1 (J_name h2) memL ft fd fl ?_
    refine JS_ifC (Mid := fun C' o => match o with | .next I' ρ' => ∀ h, I' h → Tab C'.X t dx l (ls.map lineA) h | .ret _ _ => False) (JB_plain J_bool) (fun _ => ?_) (fun q => nomatch q) (fun I' ρ' h => JS_nil h) (fun I' d h => h.elim)
    refine JS_for (di := .at l) (J_name h2) (Itr_tab (fun h T => T) (fun a m => m) (fun m => (List.mem_append.mp m).elim fl (fun q => hld (List.mem_singleton.mp q))))
      (fun i I' ρ' => I' = Tab (frA _ ++ C.X) t dx l (ls.map lineA) ∧ List.lookup ("self" : Str) ρ' = some (.at t)) ⟨rfl, h1⟩ ?_ (fun I' ρ' h => JS_nil fun h' T => h.1 ▸ T)
    rintro i d I' ρ'' hd ⟨rfl, h3⟩
    obtain ⟨kv, hkv, rfl⟩ : ∃ kv, ls[i]? = some kv ∧ d = lineA kv := by
      rw [List.getElem?_map] at hd
      cases q : ls[i]? with
      | none => rw [q] at hd; cases hd
      | some kv => rw [q] at hd; exact ⟨kv, rfl, (Option.some.inj hd).symm⟩
    have hm := hs.2 kv (List.mem_of_getElem? hkv)
    have h3' : List.lookup ("self" : Str) (("v", AV.str kv.2) :: ("k", AV.str kv.1) :: ρ'') = some (.at t) := h3
    refine ⟨_, JA_tup (JAs_cons (JA_name (.loc rfl)) (JAs_cons (JA_name (.loc rfl)) JAs_nil)) rfl, ?_⟩
    exact JS_exprJ (J_conv (b := true) (fun h T => T) h3' (J_name rfl) hm.1) noRef_str (JS_exprJ (J_conv (b := false) (fun h T => T) h3' (J_name rfl) hm.2) noRef_str (JS_nil ⟨rfl, h3⟩))
end
end Mine
end -- N3

section -- N4
open PySem PySem.W PyProof.Rows PySem.Calls
set_option maxRecDepth 100000
set_option maxHeartbeats 1000000
namespace Mine
structure RawN (t dx : Addr) (h : Heap) : Prop where
  ob : h.get? t = some (instObj 175 dx)
  di : h.get? dx = some (dictOf [] 0)
/-- how __init__ ends when no list is given -/
noncomputable abbrev PostN (X : List Addr) (H0 : Heap) (t dx : Addr) : Out → Prop := fun o => match o with
  | .next I' _ => ∃ Y l, l ∉ X ∧ H0.get? l = none ∧ ∀ h, I' h → Tab Y t dx l [] h
  | .ret _ _ => False
theorem Tab.any {X Y : List Addr} {t dx l : Addr} {h : Heap} (T : Tab X t dx l [] h) : Tab Y t dx l [] h :=
  ⟨T.ob, T.di, let ⟨vs, n, e, r⟩ := T.li; by cases r; exact ⟨[], n, e, .nil⟩⟩
section
variable {C : Cx} {n : Nat} {I : Heap → Prop} {ρ : List (Str × AV)}
/-- with less that may be written -/
theorem JS_lessW {W' : List Addr} {sts : List Stmt} {Post : Out → Prop} (h : JS { C with W := W' } n I ρ sts Post) (h1 : ∀ a ∈ frA C.env, a ∈ W') (h2 : ∀ a ∈ W', a ∈ C.W) : JS C n I ρ sts Post := by
  have to : ∀ {I ρ h}, SP C n I ρ h → SP { C with W := W' } n I ρ h := fun P => ⟨⟨⟨P.ok.K, P.ok.T, P.ok.hh, P.ok.depth, P.ok.units, P.ok.kind, P.ok.glob, P.ok.blt, P.ok.low, fun a m => P.ok.sub _ (h2 a m)⟩, P.old, P.ex, P.inv, P.st, P.vars⟩, ⟨P.fw.ns, h1, P.fw.cell, P.fw.inj⟩, P.sf⟩
  refine ⟨fun s P₀ Q E hN hR => ?_⟩
  have fro : ∀ {I ρ h}, SP { C with W := W' } n I ρ h → SP C n I ρ h := fun P => ⟨⟨P₀.ok, P.old, P.ex, P.inv, P.st, P.vars⟩, ⟨P.fw.ns, P₀.fw.inW, P.fw.cell, P.fw.inj⟩, P.sf⟩
  exact h.run s (to P₀) Q E (fun I' ρ' s' p c P' => hN I' ρ' s' p (c.mono h2) (fro P')) fun I' ρ' d v s' p c P' r => hR I' ρ' d v s' p (c.mono h2) (fro P') r
/-- x = .. if c else [] -/
theorem JS_own0 {x : Str} {xp lp ip pos : Pos} {c e : Expr} {rest : List Stmt} {t dx : Addr} (hx : Own C x) (hc : JB C n (RawN t dx) ρ c false) (hT : t ∉ frA C.env) (hD : dx ∉ frA C.env)
    (k : ∀ a, a ∉ frA C.env → a ≠ dx → JS (ownC C a) n (Raw (a :: C.X) t dx a []) ((x, .at a) :: ρ) rest (PostI (a :: C.X) t dx a []))
    (hs : swapsWith (.IfExp c e (.List [] lp) ip) (some (.Name x xp)) pos.line C.env = pure false := by rfl) : JS C n (RawN t dx) ρ (.Assign [.Name x xp] (.IfExp c e (.List [] lp) ip) pos :: rest) (PostN C.X C.H0 t dx) := by
  refine ⟨fun s₀ P₀ Q E hN hR => ?_⟩
  refine wpAny_execs_cons (wpAny_Assign_Name (IfExp_ (hc.run s₀ P₀.toPre _ _ fun s k₀ => ?_)) hs)
  rw [if_neg Bool.false_ne_true]
  have P := P₀.keeps k₀
  refine List_ (spliced_none (wpAny_newObj_type ?_))
  generalize ha : s.heap.objs.size = a
  have miss : s.heap.get? a = none := ha ▸ none_size _
  have haX : a ∉ C.X := P.toPre.fresh miss
  have haF : a ∉ frA C.env := fun m => haX (P.ok.sub _ (P.fw.inW _ m))
  generalize hh : s.heap.push { cls := .type "list", dict := none, data := .seq ([] : List Value).toArray } = h₁
  have at₁ : h₁.get? a = some (lstO [] 0) := by rw [← hh, ← ha]; exact Heap.get?_push_size _ rfl
  have kp : Kp s.heap h₁ := hh ▸ Kp.push _
  have h0 : C.H0.get? a = none := by
    cases q : C.H0.get? a with
    | none => rfl
    | some o => have := P.old a o q; rw [miss] at this; cases this
  have reX : ∀ {v d}, Rd C.X s.heap v d → Rd (a :: C.X) h₁ v d := fun r => (r.re fun b m => (List.mem_cons.mp m).elim (fun q => .inr (q ▸ miss)) .inl).mono kp.but
  have P₁ : SP (ownC C a) n (Raw (a :: C.X) t dx a []) ρ h₁ := by
    refine ⟨⟨⟨P.ok.K, P.ok.T, P.ok.hh, P.ok.depth, P.ok.units, P.ok.kind, P.ok.glob, P.ok.blt, ?_, ?_⟩, P.old.trans kp, ?_, ⟨kp _ _ P.inv.ob, kp _ _ P.inv.di, [], 0, at₁, .nil⟩, Raw.st, ?_⟩, ⟨?_, ?_, ?_, P.fw.inj⟩, Raw.sf (fun b m => .tail _ (P.ok.sub _ (P.fw.inW _ m))) hT hD haF⟩
    · intro b m
      rcases List.mem_cons.mp m with rfl | m
      · exact h0
      · exact P.ok.low b m
    · intro b m
      rcases List.mem_cons.mp m with rfl | m
      · exact .head _
      · exact .tail _ (P.ok.sub _ m)
    · intro b m
      rcases List.mem_cons.mp m with rfl | m
      · exact ⟨_, at₁⟩
      · obtain ⟨o, e⟩ := P.ex b m; exact ⟨o, kp _ _ e⟩
    · intro y d e
      obtain ⟨v, lk, r⟩ := P.vars y d e
      exact ⟨v, lk.kp kp, reX r⟩
    · obtain ⟨m, hm⟩ := P.fw.ns; exact ⟨m, hm.keeps kp⟩
    · exact fun b m => .tail _ (P.fw.inW _ m)
    · intro y c e; obtain ⟨v, hv⟩ := P.fw.cell y c e; exact ⟨v, Heap.IsCell.kp kp hv⟩
  have hx' : Own (ownC C a) x := hx
  refine store (C := ownC C a) P₁ hx' (.at a) fun s₂ k₂ P₂ => ?_
  obtain ⟨h₂, tk₂, rfl, kk⟩ := k₂
  have back : ∀ s', Ch (a :: C.W) ⟨h₂, s.gens, s.drawn, tk₂, s.os⟩ s' → Ch C.W s₀ s' := by
    rintro s' ⟨h', tk', rfl, k⟩
    exact (Ch.of k₀).trans ⟨h', tk', rfl, fun b o nb e => k b o (fun m => (List.mem_cons.mp m).elim (fun q => by rw [q, miss] at e; cases e) nb) (kk b o (fun m => nb (P.fw.inW _ m)) (kp b o e))⟩
  refine (k a haF (fun q => by have := P.inv.di; rw [← q, miss] at this; cases this)).run _ P₂ _ _ (fun I' ρ' s' p c P' => ?_) fun I' ρ' d v s' p c P' r => p.elim
  exact hN (Tab C.X t dx a []) [] s' ⟨C.X, a, haX, h0, fun h T => T⟩ (back s' c) ⟨⟨P.ok, P'.old, fun b m => P'.ex b (.tail _ m), (p _ P'.inv).any, Tab.st, fun _ _ h => nomatch h⟩, ⟨P'.fw.ns, P.fw.inW, P'.fw.cell, P.fw.inj⟩, Tab.sf (fun b m => P.ok.sub _ (P.fw.inW _ m)) hT hD haF⟩
theorem calls_rawN {f : Addr} {name qual : Str} {params : Arguments} {body : List Stmt} {scope : Scope} {dV kV doc pm cdv ct oc : Value} {an od : Option Addr} {osl : Array (Option Value)} {x1 x2 : Str} {t dx : Addr} {s : Shared} {R : Result → Shared → Prop}
    (P : Pre C (n + 1) I ρ s.heap) (T : RawN t dx s.heap) (hdX : dx ∈ C.X)
    (ho : (HK C.w.params).lookup f = some ⟨oc, od, .func (fnX name qual params body scope [] dV kV doc pm an cdv ct), osl⟩) (hcd : codeIn (HK C.w.params) cdv qual = true)
    (hbind : ∀ (s : Shared) a, (HK C.w.params).In s.heap → BindsTo s (fnX name qual params body scope [] dV kV doc pm an cdv ct) ⟨[a], []⟩ [(x1, a), (x2, .none)])
    (hkind : ([x1, x2].all fun y => scope.names.lookup y == some .local || scope.names.lookup y == some .cell) = true) (hnd : [x1, x2].Nodup) (hcn : ((cellsFrom 0 scope.names []).map (·.1)).Nodup)
    (hco : scope.isCoroutine = false) (hgen : scope.isGenerator = false) (hk : scope.kind = .function)
    (hb : ∀ L, t ∉ frA (envOfC qual scope L f cdv) → dx ∉ frA (envOfC qual scope L f cdv) → JS (callC C [dx] qual scope L f cdv) n (RawN t dx) [(x1, .at t), (x2, .none)] body (PostN (frA (envOfC qual scope L f cdv) ++ C.X) C.H0 t dx))
    (hR : ∀ s' l, Ch [dx] s s' → l ∉ C.X → C.H0.get? l = none → Tab [] t dx l [] s'.heap → R (.ok (.ret .none)) s') : codeAny (model PR C.w) C.A (.call (.ref f) ⟨[.ref t], []⟩) R s := by
  have miss := fr_miss (h := s.heap) (qual := qual) (scope := scope) (f := f) (cdv := cdv)
  have hx : ∀ {a o}, s.heap.get? a = some o → a ∉ frA (envOfC qual scope s.heap.objs.size f cdv) := fun e m => by rw [miss _ m] at e; cases e
  have f1 := hx T.ob
  have f2 := hx T.di
  refine enterA (sB := s) (binds := [(x1, .ref t), (x2, .none)]) (W0 := [dx]) (I0 := RawN t dx) (ρ0 := [(x1, .at t), (x2, .none)]) (Post := PostN (frA (envOfC qual scope s.heap.objs.size f cdv) ++ C.X) C.H0 t dx) P ho hcd (keeps_refl s) (hbind s _ P.K) (by simpa using hkind) hnd hcn hco hgen hk (.cons (.at _) (.cons .none .nil))
    T (fun h h' k T => ⟨k _ _ T.ob, k _ _ T.di⟩) ?_ (fun a m => List.mem_singleton.mp m ▸ hdX) ?_ ?_ ?_
  · rintro L h h' rfl k T
    exact ⟨k _ _ f1 rfl T.ob, k _ _ f2 rfl T.di⟩
  · rintro L rfl
    exact hb _ f1 f2
  · exact fun I' e v s' h => h.elim
  · rintro I' ρ' s' ⟨Y, l, hX, h0, hT⟩ c hI'
    exact hR s' l c (fun m => hX (List.mem_append.mpr (.inr m))) h0 (hT _ hI').any
theorem init_none {t dx : Addr} {s : Shared} {R : Result → Shared → Prop} (P : Pre C (n + 2) I ρ s.heap) (T : RawN t dx s.heap) (hdX : dx ∈ C.X)
    (hR : ∀ s' l, Ch [dx] s s' → l ∉ C.X → C.H0.get? l = none → Tab [] t dx l [] s'.heap → R (.ok (.ret .none)) s') : codeAny (model PR C.w) C.A (.call (.ref 69) ⟨[.ref t], []⟩) R s := by
  refine' calls_rawN (x1 := "self") (x2 := "headers") P T hdX ?ho ?hcd ?hbind ?hkind ?hnd ?hcn ?hco ?hgen ?hk ?hb hR
  case ho => (unfold HK fragOf; k_is)
  case hcd => (unfold HK fragOf; k_is)
  case hbind =>
    intro s a hK
    refine' binds_K hK rfl ?o ?s rfl ?h2
    case o => (unfold HK fragOf; k_is)
    case s => exact rfl
    case h2 => exact rfl
  case hkind => exact rfl
  case hnd => decide
  case hcn => decide
  case hco => exact rfl
  case hgen => exact rfl
  case hk => exact rfl
  case hb =>
    intro L ft fd
    refine JS_own0 (.loc rfl) (JB_isNotNoneN (J_name rfl)) ft fd fun a fa nd => ?_
    refine JS_ifC (Mid := fun C' o => match o with | .next I' ρ' => I' = Raw C'.X t dx a [] ∧ List.lookup ("self" : Str) ρ' = some (.at t) ∧ List.lookup ("headers" : Str) ρ' = some (.at a) | .ret _ _ => False) (JB_isNotList (fun h T => T.li) (J_name rfl)) (fun q => nomatch q) (fun _ => JS_nil ⟨rfl, rfl, rfl⟩) ?_ (fun I' d h => h.elim)
    rintro I' ρ' ⟨rfl, h1, h2⟩
    refine JS_setHdr (fun h T => T) h1 (J_name h2) (.tail _ memL) ft fd fa ?_
    refine JS_ifC (Mid := fun C' o => match o with | .next I' ρ' => ∀ h, I' h → Tab C'.X t dx a [] h | .ret _ _ => False) (JB_plain J_bool) (fun _ => ?_) (fun q => nomatch q) (fun I' ρ' h => JS_nil h) (fun I' d h => h.elim)
    refine JS_lessW (W' := frA _ ++ [dx]) ?_ (fun b m => List.mem_append.mpr (.inl m)) (fun b m => .tail _ m)
    exact JS_for (di := .at a) (J_name h2) (Itr_tab (fun h T => T) (fun b m => m) (fun m => (List.mem_append.mp m).elim fa (fun q => nd (List.mem_singleton.mp q))))
      (fun i I' ρ' => ∀ h, I' h → Tab (a :: (frA _ ++ C.X)) t dx a [] h) (fun h T => T) (fun i d I' ρ'' hd => nomatch hd) (fun I' ρ' h => JS_nil h)
end
end Mine
end -- N4

section -- N5
open PySem PySem.W PyProof.Rows PySem.Calls
set_option maxRecDepth 100000
set_option maxHeartbeats 1000000
namespace Mine
theorem weight_new (c : Addr) (vs : List Value) : (Code.builtin "type.__call__" ⟨.ref c :: vs, []⟩).weight ≤ 1 := by
  first | exact Nat.le_of_eq (by rfl : _ = 0) | exact Nat.le_of_eq (by rfl : _ = 1) | decide
theorem units_new (c : Addr) (vs : List Value) : (Code.builtin "type.__call__" ⟨.ref c :: vs, []⟩).cUnits ≤ 8 := by
  show _ ≤ 8
  exact Nat.le_of_ble_eq_true rfl
noncomputable abbrev newC (C : Cx) (t dx l : Addr) : Cx := { C with X := t :: dx :: l :: C.X, W := t :: dx :: l :: C.W }
noncomputable abbrev newU (C : Cx) (t dx l : Addr) (vs : List Value) : Cx := { newC C t dx l with A := C.A.under (.builtin "type.__call__" ⟨.ref 175 :: vs, []⟩) }
section
variable {C : Cx} {n : Nat} {I : Heap → Prop} {ρ : List (Str × AV)}
theorem hd_makes (w : World) : makesIn (HK w.params) 175 = true := by kernel_rfl
theorem hd_init (w : World) : findIn (HK w.params) (.ref 175) "__init__" = some (some (.ref 69)) := by kernel_rfl
theorem hd_initfn (w : World) : typeIn (HK w.params) (.ref 69) = some (.type "function") := by kernel_rfl
theorem at_headers (w : World) : nsIn (HK w.params) mainGlobals "Headers" = some (some (.ref 175)) := by kernel_rfl
theorem kp_headers (w : World) : keepIn (HK w.params) (.ref 175) = true := by kernel_rfl
/-- new addresses may be set apart -/
theorem Pre.grow {I' : Heap → Prop} {h h' : Heap} {t dx l : Addr} {vs : List Value} (P : Pre C (n + 1) I ρ h) (k : Kp h h') (mt : h.get? t = none) (md : h.get? dx = none) (ml : h.get? l = none) (et : ∃ o, h'.get? t = some o) (ed : ∃ o, h'.get? dx = some o) (el : ∃ o, h'.get? l = some o) (hI : I' h') (st : ∀ h h', Kp h h' → I' h → I' h') : Pre (newU C t dx l vs) n I' [] h' := by
  have miss0 : ∀ {a}, h.get? a = none → C.H0.get? a = none := fun {a} q => by
    cases q' : C.H0.get? a with
    | none => rfl
    | some o => have := P.old a o q'; rw [q] at this; cases this
  refine ⟨⟨P.ok.K, P.ok.T, P.ok.hh, ?_, ?_, P.ok.kind, P.ok.glob, P.ok.blt, ?_, ?_⟩, P.old.trans k, ?_, hI, st, fun _ _ e => nomatch e⟩
  · have := P.ok.depth; have := weight_new 175 vs; show C.A.depth + _ + n ≤ 500; omega
  · have := P.ok.units; have := units_new 175 vs; show C.A.units + _ + 8 * n ≤ 5000; omega
  · intro a m
    rcases List.mem_cons.mp m with rfl | m
    · exact miss0 mt
    rcases List.mem_cons.mp m with rfl | m
    · exact miss0 md
    rcases List.mem_cons.mp m with rfl | m
    · exact miss0 ml
    exact P.ok.low a m
  · intro a m
    rcases List.mem_cons.mp m with rfl | m
    · exact .head _
    rcases List.mem_cons.mp m with rfl | m
    · exact .tail _ (.head _)
    rcases List.mem_cons.mp m with rfl | m
    · exact .tail _ (.tail _ (.head _))
    exact .tail _ (.tail _ (.tail _ (P.ok.sub a m)))
  · intro a m
    rcases List.mem_cons.mp m with rfl | m
    · exact et
    rcases List.mem_cons.mp m with rfl | m
    · exact ed
    rcases List.mem_cons.mp m with rfl | m
    · exact el
    obtain ⟨o, e⟩ := P.ex a m
    exact ⟨o, k _ _ e⟩
/-- Headers(list) -/
theorem call_new {s₀ s : Shared} {l : Addr} {vs : List Value} {m : Nat} {ls : List Ln} {Q : Value → Shared → Prop} {E : Value → Shared → Prop} (P₀ : Pre C (n + 3) I ρ s₀.heap) (k : Keeps s₀ s) (ml : s₀.heap.get? l = none) (el : s.heap.get? l = some (lstO vs m)) (ra : RdAll C.X s.heap vs (ls.map lineA)) (hl : l ∉ C.X) (hs : Short ls)
    (hra : ∀ Y, (∀ a ∈ Y, a ∈ C.X ∨ s₀.heap.get? a = none) → RdAll Y s.heap vs (ls.map lineA))
    (hQ : ∀ t dx s', Keeps s₀ s' → s₀.heap.get? t = none → s₀.heap.get? dx = none → Tab (t :: dx :: l :: C.X) t dx l (ls.map lineA) s'.heap → Q (.ref t) s') : wpAny (model PR C.w) C.A (call (.ref 175) [.ref l]) Q E s := by
  obtain ⟨h, tk, rfl, kh⟩ := k
  have kh : Kp s₀.heap h := kh
  have P : Pre C (n + 3) I ρ h := P₀.kp kh
  have mdx : h.get? h.objs.size = none := none_size _
  have mt : h.get? (h.objs.size + 1) = none := by
    cases q : h.get? (h.objs.size + 1) with
    | none => rfl
    | some o => exact absurd (Heap.lt_size q) (Nat.not_lt.mpr (Nat.le_succ _))
  have back : ∀ {a}, h.get? a = none → s₀.heap.get? a = none := fun {a} q => by
    cases q' : s₀.heap.get? a with
    | none => rfl
    | some o => have := kh a o q'; rw [q] at this; cases this
  refine wpAny_call (make_core (h := h) (makes_of P.K (hd_makes _)) (looks_findIn P.K (hd_init _)) (fun self => bind_fn P.K self (hd_initfn _)) (.inl rfl) ?_)
  have kp : Kp h ((h.push emptyDict).push (instObj 175 h.objs.size)) := (Kp.push _).trans (Kp.push _)
  have edx : ((h.push emptyDict).push (instObj 175 h.objs.size)).get? h.objs.size = some (dictOf [] 0) := Heap.get?_push_of_some _ (Heap.get?_push_size _ rfl)
  have et : ((h.push emptyDict).push (instObj 175 h.objs.size)).get? (h.objs.size + 1) = some (instObj 175 h.objs.size) := by
    have := Heap.get?_push_size (h.push emptyDict) (o := instObj 175 h.objs.size) rfl
    rw [Heap.size_push] at this; exact this
  generalize hH : (h.push emptyDict).push (instObj 175 h.objs.size) = H at kp edx et ⊢
  generalize hdx : h.objs.size = dx at mdx mt edx et ⊢
  generalize htt : dx + 1 = t at mt et ⊢
  have elH := kp _ _ el
  have R : Raw (t :: dx :: l :: C.X) t dx l (ls.map lineA) H := by
    refine ⟨et, edx, vs, m, elH, (hra _ fun a ma => ?_).mono kp.but⟩
    rcases List.mem_cons.mp ma with rfl | ma
    · exact .inr (back mt)
    rcases List.mem_cons.mp ma with rfl | ma
    · exact .inr (back mdx)
    rcases List.mem_cons.mp ma with rfl | ma
    · exact .inr ml
    exact .inl ma
  have P₁ : Pre (newU C t dx l [.ref l]) (n + 2) (Raw (t :: dx :: l :: C.X) t dx l (ls.map lineA)) [] H := P₀.grow (kh.trans kp) (back mt) (back mdx) ml ⟨_, et⟩ ⟨_, edx⟩ ⟨_, elH⟩ R Raw.st
  refine init_lst (C := newU C t dx l [.ref l]) (n := n) (s := ⟨H, s₀.gens, s₀.drawn, tk, s₀.os⟩) P₁ R (.tail _ (.head _)) hs fun s' c T => ?_
  obtain ⟨h', tk', rfl, kk⟩ := c
  have kk : KpBut [dx] H h' := kk
  exact ⟨rfl, hQ t dx _ ⟨h', tk', rfl, fun b o e => kk b o (fun q => by rw [List.mem_singleton.mp q, back mdx] at e; cases e) (kp _ _ (kh _ _ e))⟩ (back mt) (back mdx) T⟩
end
end Mine
end -- N5

section -- N6
open PySem PySem.W PyProof.Rows PySem.Calls
set_option maxRecDepth 100000
set_option maxHeartbeats 1000000
namespace Mine
section
variable {C : Cx} {n : Nat} {I : Heap → Prop} {ρ : List (Str × AV)}
/-- Headers() -/
theorem call_new0 {s : Shared} {Q : Value → Shared → Prop} {E : Value → Shared → Prop} (P : Pre C (n + 3) I ρ s.heap)
    (hQ : ∀ t dx l s', Keeps s s' → s.heap.get? t = none → s.heap.get? dx = none → l ∉ C.X → l ≠ t → l ≠ dx → C.H0.get? l = none → Tab [] t dx l [] s'.heap → Q (.ref t) s') : wpAny (model PR C.w) C.A (call (.ref 175) []) Q E s := by
  obtain ⟨h, g, d, tk, os⟩ := s
  have P : Pre C (n + 3) I ρ h := P
  have mdx : h.get? h.objs.size = none := none_size _
  have mt : h.get? (h.objs.size + 1) = none := by
    cases q : h.get? (h.objs.size + 1) with
    | none => rfl
    | some o => exact absurd (Heap.lt_size q) (Nat.not_lt.mpr (Nat.le_succ _))
  refine wpAny_call (make_core (h := h) (makes_of P.K (hd_makes _)) (looks_findIn P.K (hd_init _)) (fun self => bind_fn P.K self (hd_initfn _)) (.inl rfl) ?_)
  have kp : Kp h ((h.push emptyDict).push (instObj 175 h.objs.size)) := (Kp.push _).trans (Kp.push _)
  have edx : ((h.push emptyDict).push (instObj 175 h.objs.size)).get? h.objs.size = some (dictOf [] 0) := Heap.get?_push_of_some _ (Heap.get?_push_size _ rfl)
  have et : ((h.push emptyDict).push (instObj 175 h.objs.size)).get? (h.objs.size + 1) = some (instObj 175 h.objs.size) := by
    have := Heap.get?_push_size (h.push emptyDict) (o := instObj 175 h.objs.size) rfl
    rw [Heap.size_push] at this; exact this
  generalize hH : (h.push emptyDict).push (instObj 175 h.objs.size) = H at kp edx et ⊢
  generalize hdx : h.objs.size = dx at mdx mt edx et ⊢
  generalize htt : dx + 1 = t at mt et ⊢
  have R : RawN t dx H := ⟨et, edx⟩
  have P₁ : Pre (newU C t dx t []) (n + 2) (RawN t dx) [] H := P.grow kp mt mdx mt ⟨_, et⟩ ⟨_, edx⟩ ⟨_, et⟩ R (fun h h' k T => ⟨k _ _ T.ob, k _ _ T.di⟩)
  refine init_none (C := newU C t dx t []) (n := n) (s := ⟨H, g, d, tk, os⟩) P₁ R (.tail _ (.head _)) fun s' l c hX h0 T => ?_
  obtain ⟨h', tk', rfl, kk⟩ := c
  have kk : KpBut [dx] H h' := kk
  exact ⟨rfl, hQ t dx l _ ⟨h', tk', rfl, fun b o e => kk b o (fun q => by have e' : h.get? b = some o := e; rw [List.mem_singleton.mp q, mdx] at e'; cases e') (kp _ _ e)⟩ mt mdx (fun m => hX (.tail _ (.tail _ (.tail _ m)))) (fun q => hX (q ▸ .head _)) (fun q => hX (q ▸ .tail _ (.head _))) h0 T⟩
/-- a name, in place -/
theorem ev_name {x : Str} {pos : Pos} {d : AV} {s : Shared} {Q : Value → Shared → Prop} {E : Value → Shared → Prop} (P : Pre C n I ρ s.heap) (h : ρ.lookup x = some d) (hd : (x == ("__debug__" : Str)) = false) (hQ : ∀ v, Rd C.X s.heap v d → Q v s) : wpAny (model PR C.w) C.A (eval (.Name x pos) C.env) Q E s := by
  obtain ⟨v, l, r⟩ := P.vars x d h
  refine wpAny_Name ?_ hd
  cases l with
  | loc a b c => exact wpAny_loadName_local P.ok.kind a b c (hQ _ r)
  | cell a b c => exact wpAny_loadName_cell P.ok.kind a b c (hQ _ r)
  | free a n b c => exact wpAny_loadName_free P.ok.kind a b c (hQ _ r) n
/-- o[:], a new list -/
theorem ev_copy {o : Str} {op sp pos : Pos} {ds : List AV} {s : Shared} {Q : Value → Shared → Prop} {E : Value → Shared → Prop} (P : Pre C n I ρ s.heap) (ho : ρ.lookup o = some (.lst ds)) (hz : ds.length ≤ 1000) (hd : (o == ("__debug__" : Str)) = false)
    (hQ : ∀ a s' vs m, Keeps s s' → s.heap.get? a = none → s'.heap.get? a = some (lstO vs m) → (∀ Y, (∀ b ∈ Y, b ∈ C.X ∨ s.heap.get? b = none) → RdAll Y s'.heap vs ds) → Q (.ref a) s') : wpAny (model PR C.w) C.A (eval (.Subscript (.Name o op) (.Slice none none none sp) pos) C.env) Q E s := by
  refine Subscript_ (ev_name P ho hd fun v r => wpAny_Slice (evalPart_none_step (evalPart_none_step (evalPart_none_step ?_))))
  cases r with
  | lst na ea ra =>
  rename_i l vs m
  have hL : s.heap.IsList l vs.toArray := ⟨_, ea, rfl, _, rfl⟩
  refine tail_any (hL.push _).typeIs slot_list_getitem.lookup (wpAny_getItem_list_slice (hL.push _) (Heap.IsSliceOf.new ..) .none .none .none (by simp) ?_ ?_) rfl
  · have kp : Kp s.heap ((s.heap.push { cls := .type "slice", data := .fields #[.none, .none, .none] }).push { cls := .type "list", data := .seq (slicePick vs.toArray none none none) }) := (Kp.push _).trans (Kp.push _)
    refine hQ _ _ vs 0 (keeps_h' s kp) ?_ ?_ fun Y hY => (ra.re hY).mono kp.but
    · rw [Heap.size_push]
      cases q : s.heap.get? (s.heap.objs.size + 1) with
      | none => rfl
      | some o => exact absurd (Heap.lt_size q) (Nat.not_lt.mpr (Nat.le_succ _))
    · rw [slicePick_all]
      exact Heap.get?_push_size _ rfl
  · rw [List.size_toArray, ra.length]; exact Nat.le_trans hz (by decide)
/-- the frame, with a table of its own -/
theorem SP.grow {h h' : Heap} {t dx l : Addr} {I' : Heap → Prop} (P : SP C n I ρ h) (k : Kp h h') (mt : h.get? t = none) (md : h.get? dx = none) (ml : C.H0.get? l = none) (hl : l ∉ C.X) (et : ∃ o, h'.get? t = some o) (ed : ∃ o, h'.get? dx = some o) (el : ∃ o, h'.get? l = some o)
    (hv : ∀ v d, Rd C.X h v d → (∃ x, ρ.lookup x = some d) → Rd (t :: dx :: l :: C.X) h' v d) (hI : I' h') (st : ∀ h h', Kp h h' → I' h → I' h') (sf : ∀ h h', KpIt (frA C.env) h h' → I' h → I' h') : SP (newC C t dx l) n I' ρ h' := by
  have miss0 : ∀ {a}, h.get? a = none → C.H0.get? a = none := fun {a} q => by
    cases q' : C.H0.get? a with
    | none => rfl
    | some o => have := P.old a o q'; rw [q] at this; cases this
  refine ⟨⟨⟨P.ok.K, P.ok.T, P.ok.hh, P.ok.depth, P.ok.units, P.ok.kind, P.ok.glob, P.ok.blt, ?_, ?_⟩, P.old.trans k, ?_, hI, st, fun y d e => ?_⟩, ⟨?_, fun a m => .tail _ (.tail _ (.tail _ (P.fw.inW a m))), fun y c e => ?_, P.fw.inj⟩, sf⟩
  · intro a m
    rcases List.mem_cons.mp m with rfl | m
    · exact miss0 mt
    rcases List.mem_cons.mp m with rfl | m
    · exact miss0 md
    rcases List.mem_cons.mp m with rfl | m
    · exact ml
    exact P.ok.low a m
  · intro a m
    rcases List.mem_cons.mp m with rfl | m
    · exact .head _
    rcases List.mem_cons.mp m with rfl | m
    · exact .tail _ (.head _)
    rcases List.mem_cons.mp m with rfl | m
    · exact .tail _ (.tail _ (.head _))
    exact .tail _ (.tail _ (.tail _ (P.ok.sub a m)))
  · intro a m
    rcases List.mem_cons.mp m with rfl | m
    · exact et
    rcases List.mem_cons.mp m with rfl | m
    · exact ed
    rcases List.mem_cons.mp m with rfl | m
    · exact el
    obtain ⟨o, e⟩ := P.ex a m
    exact ⟨o, k _ _ e⟩
  · obtain ⟨v, lk, r⟩ := P.vars y d e
    exact ⟨v, lk.kp k, hv v d r ⟨y, e⟩⟩
  · obtain ⟨m, hm⟩ := P.fw.ns; exact ⟨m, hm.keeps k⟩
  · obtain ⟨v, hv⟩ := P.fw.cell y c e; exact ⟨v, Heap.IsCell.kp k hv⟩
/-- a, b = (Headers(o[:]), c) -/
theorem JS_new {x1 x2 o : Str} {p1 p2 tp fp op sp p3 p4 p5 p6 pos : Pos} {k1 k2 kc : Nat} {b : Bool} {rest : List Stmt} {ls : List Ln} {d : AV} (h1 : Own C x1) (h2 : Own C x2) (ho : ρ.lookup o = some (.lst (ls.map lineA))) (hs : Short ls)
    (k : ∀ t dx l, t ∉ frA C.env → dx ∉ frA C.env → l ∉ frA C.env → JS (newC C t dx l) (n + 3) (Tab (t :: dx :: l :: C.X) t dx l (ls.map lineA)) ((x2, .bool b) :: (x1, .at t) :: ρ) rest (Ret d))
    (hk : C.env.kindOf "Headers" = some .globalImplicit := by rfl) (hdo : (o == ("__debug__" : Str)) = false := by decide)
    (hsw : swapsWithSole [.Tuple [.Name x1 p1, .Name x2 p2] k1 tp] (.Tuple [.Call (.Name "Headers" fp) [.Subscript (.Name o op) (.Slice none none none sp) p3] [] p4, .Constant (.bool b) kc p5] k2 p6) pos.line C.env = pure false := by rfl)
    (hw : swappedStores [.Tuple [.Name x1 p1, .Name x2 p2] k1 tp] (.Tuple [.Call (.Name "Headers" fp) [.Subscript (.Name o op) (.Slice none none none sp) p3] [] p4, .Constant (.bool b) kc p5] k2 p6) C.env = pure none := by rfl) :
    JS C (n + 3) I ρ (.Assign [.Tuple [.Name x1 p1, .Name x2 p2] k1 tp] (.Tuple [.Call (.Name "Headers" fp) [.Subscript (.Name o op) (.Slice none none none sp) p3] [] p4, .Constant (.bool b) kc p5] k2 p6) pos :: rest) (Ret d) := by
  have hz := hs.1
  refine ⟨fun s P Q E hN hR => ?_⟩
  refine wpAny_execs_cons (Assign_Tuple (Tuple_ (spliced_more (Call_ (ev_global P.toPre hk (at_headers _) (by decide) ?_) call_name) (star_cons rfl))) hsw hw)
  refine callWith_K P.toPre.K (kp_headers _) (spliced_more (ev_copy P.toPre ho (by rw [List.length_map]; omega) hdo fun l s₁ vs m k₁ ml el hra => spliced_none ⟨(P.keeps k₁).toPre.K, ?_⟩) (star_cons rfl)) (star_cons rfl) rfl
  have hlX : l ∉ C.X := P.toPre.fresh ml
  refine call_new (n := n) P.toPre k₁ ml el (hra _ fun a m => .inl m) hlX hs hra fun t dx s₂ k₂ mt md T => ?_
  have hF : ∀ {a}, s.heap.get? a = none → a ∉ frA C.env := fun q m => by obtain ⟨o, e⟩ := P.ex _ (P.ok.sub _ (P.fw.inW _ m)); rw [q] at e; cases e
  have ml0 : C.H0.get? l = none := by
    cases q : C.H0.get? l with
    | none => rfl
    | some o => have := P.old l o q; rw [ml] at this; cases this
  obtain ⟨_, _, _, edx⟩ := T.di
  obtain ⟨_, _, el₂, _⟩ := T.li
  have kp₂ := keeps_kp k₂
  have re : ∀ {v d}, Rd C.X s.heap v d → Rd (t :: dx :: l :: C.X) s₂.heap v d := fun r => (r.re fun a ma => by
    rcases List.mem_cons.mp ma with rfl | ma
    · exact .inr mt
    rcases List.mem_cons.mp ma with rfl | ma
    · exact .inr md
    rcases List.mem_cons.mp ma with rfl | ma
    · exact .inr ml
    exact .inl ma).mono kp₂.but
  have P₂ : SP (newC C t dx l) (n + 3) (Tab (t :: dx :: l :: C.X) t dx l (ls.map lineA)) ρ s₂.heap := P.grow kp₂ mt md ml0 hlX ⟨_, T.ob⟩ ⟨_, edx⟩ ⟨_, el₂⟩ (fun v d r _ => re r) T Tab.st (Tab.sf (fun b m => .tail _ (.tail _ (.tail _ (P.ok.sub _ (P.fw.inW _ m))))) (hF mt) (hF md) (hF ml))
  refine spliced_more (Constant_bool (spliced_none ?_)) (star_cons rfl)
  refine new_tup (C := newC C t dx l) P₂.toPre (.cons (.at t) (.cons (.bool b) .nil)) (show 2 ≤ sizeLine by decide) fun v s₃ k₃ r₃ => ?_
  refine (JA_tup (C := newC C t dx l) (JAs_cons (JA_name (C := newC C t dx l) h1) (JAs_cons (JA_name (C := newC C t dx l) h2) JAs_nil)) rfl).run s₃ v (P₂.keeps k₃) r₃ _ _ fun s₄ c₄ P₄ => ?_
  have cc : Ch C.W s s₄ := (Ch.of k₂).trans ((Ch.of k₃).trans (c₄.mono P.fw.inW))
  have back : ∀ s', Ch (t :: dx :: l :: C.W) s₄ s' → Ch C.W s s' := by
    rintro s' ⟨h', tk', rfl, k⟩
    obtain ⟨h₄, tk₄, rfl, kk⟩ := cc
    refine ⟨h', tk', rfl, fun b o nb e => k b o (fun mm => ?_) (kk b o nb e)⟩
    rcases List.mem_cons.mp mm with rfl | mm
    · rw [mt] at e; cases e
    rcases List.mem_cons.mp mm with rfl | mm
    · rw [md] at e; cases e
    rcases List.mem_cons.mp mm with rfl | mm
    · rw [ml] at e; cases e
    exact nb mm
  refine (k t dx l (hF mt) (hF md) (hF ml)).run s₄ P₄ _ _ (fun I' ρ' s' p => p.elim) fun I' ρ' e v s' p c P' r => ?_
  exact hR (fun _ => True) [] e v s' p (back s' c) ⟨⟨P.ok, P'.old, fun b m => P'.ex b (.tail _ (.tail _ (.tail _ m))), trivial, fun _ _ _ h => h, fun _ _ h => nomatch h⟩, ⟨P'.fw.ns, P.fw.inW, P'.fw.cell, P.fw.inj⟩, fun _ _ _ h => h⟩ (r.re fun a m => .inl (.tail _ (.tail _ (.tail _ m))))
end
end Mine
end -- N6

section -- D0
open PySem PySem.W PyProof.Rows PySem.Calls
set_option maxRecDepth 100000
set_option maxHeartbeats 400000
namespace Mine
/-- the signs of a text -/
noncomputable def signs (x : Str) : List AV := x.cps.toList.map fun c => AV.str ⟨#[c]⟩
section
variable {C : Cx} {n : Nat} {I : Heap → Prop} {ρ : List (Str × AV)}
theorem Itr_str {x : Str} (ha : x.cps.all (· < 128) = true) : Itr C n I ρ (.str x) (signs x) := by
  refine ⟨fun s v Q E P r hQ => ?_⟩
  cases r with
  | str x t =>
  refine wpAny_pyIter_ascii ha ?_
  have W := Walks.strAscii (prog := PR) (w := C.w) P.ok.hh s.heap.objs.size x t
  have hsz : x.cps.size = (signs x).length := by unfold signs; rw [List.length_map, Array.length_toList]
  rw [hsz] at W
  refine hQ _ _ _ _ _ (none_size _) (keeps_h' s (Kp.push _)) W ⟨_, Heap.get?_push_size _ rfl, rfl, rfl⟩ (fun b hb => .inl (List.mem_singleton.mp hb)) ?_ ?_
  · rintro i u ⟨c, t', hc, rfl⟩
    refine ⟨.str ⟨#[c]⟩, ?_, .str _ _⟩
    unfold signs
    rw [List.getElem?_map, Array.getElem?_toList, hc]
    rfl
  · rintro i h ⟨o, e, c, _⟩
    exact ⟨o, _, e, c, by decide, by decide⟩
end
/-- the first lines -/
noncomputable def own0 : List Ln := [("r", "a"), ("R", "b"), ("s", "b"), ("S", "c"), ("t", "c"), ("T", "a")]
noncomputable def nms : List Str := ["r", "s", "t", "R", "S", "T"]
/-- what a number says -/
noncomputable def nmD (k : Int) : Str := nms.getD (k.fmod 6).toNat "r"
noncomputable def vlD (k : Int) : Str := vals.getD ((k.fdiv 6).fmod 6).toNat "a"
noncomputable def dd (k : Int) : Int := (k.fdiv 36).fmod 4
/-- one deed -/
noncomputable def stepD (ls : List Ln) (k : Int) : List Ln :=
  if dd k = 0 then ls ++ [(nmD k, vlD k)] else if dd k = 1 then othersOf ls (Txt.lower (nmD k)) ++ [(nmD k, vlD k)] else if dd k = 2 then dfltOf ls (nmD k) (vlD k) else othersOf ls (Txt.lower (nmD k))
noncomputable def deedsF (sc : List Int) : List Ln := (sc.take 8).foldl stepD own0
theorem fmod_lt6 (k : Int) : 0 ≤ k.fmod 6 ∧ k.fmod 6 < 6 := ⟨Int.fmod_nonneg_of_pos k (by decide), Int.fmod_lt_of_pos k (by decide)⟩
theorem item_nm (k : Int) : Txt.item ("rstRST" : Str) (k.fmod 6) = nmD k := by
  obtain ⟨h1, h2⟩ := fmod_lt6 k
  unfold nmD
  generalize k.fmod 6 = j at *
  have : j = 0 ∨ j = 1 ∨ j = 2 ∨ j = 3 ∨ j = 4 ∨ j = 5 := by omega
  rcases this with rfl | rfl | rfl | rfl | rfl | rfl <;> decide +kernel
theorem item_vl (k : Int) : Txt.item ("abc012" : Str) ((k.fdiv 6).fmod 6) = vlD k := by
  obtain ⟨h1, h2⟩ := fmod_lt6 (k.fdiv 6)
  unfold vlD
  generalize (k.fdiv 6).fmod 6 = j at *
  have : j = 0 ∨ j = 1 ∨ j = 2 ∨ j = 3 ∨ j = 4 ∨ j = 5 := by omega
  rcases this with rfl | rfl | rfl | rfl | rfl | rfl <;> decide +kernel
theorem nm_pins (k : Int) : nmD k ∈ pins ∧ Txt.lower (nmD k) ∈ pins := by
  obtain ⟨h1, h2⟩ := fmod_lt6 k
  unfold nmD
  generalize k.fmod 6 = j at *
  have : j = 0 ∨ j = 1 ∨ j = 2 ∨ j = 3 ∨ j = 4 ∨ j = 5 := by omega
  rcases this with rfl | rfl | rfl | rfl | rfl | rfl <;> decide +kernel
theorem vl_vals (k : Int) : vlD k ∈ vals := by
  obtain ⟨h1, h2⟩ := fmod_lt6 (k.fdiv 6)
  unfold vlD
  generalize (k.fdiv 6).fmod 6 = j at *
  have : j = 0 ∨ j = 1 ∨ j = 2 ∨ j = 3 ∨ j = 4 ∨ j = 5 := by omega
  rcases this with rfl | rfl | rfl | rfl | rfl | rfl <;> decide +kernel
theorem own0_ok : own0.length = 6 ∧ ∀ kv ∈ own0, kv.1 ∈ pins ∧ kv.2 ∈ vals := by decide +kernel
/-- lines that may be -/
noncomputable def Lns (m : Nat) (ls : List Ln) : Prop := ls.length ≤ m ∧ ∀ kv ∈ ls, kv.1 ∈ pins ∧ kv.2 ∈ vals
theorem Lns.others {m : Nat} {ls : List Ln} {x : Str} (h : Lns m ls) : Lns m (othersOf ls x) := ⟨Nat.le_trans (List.length_filter_le _ _) h.1, fun kv hm => h.2 kv (List.mem_filter.mp hm).1⟩
theorem Lns.snoc {m : Nat} {ls : List Ln} {x y : Str} (h : Lns m ls) (hx : x ∈ pins) (hy : y ∈ vals) : Lns (m + 1) (ls ++ [(x, y)]) := by
  refine ⟨by rw [List.length_append]; have := h.1; simpa using this, fun kv hm => ?_⟩
  rcases List.mem_append.mp hm with hm | hm
  · exact h.2 kv hm
  · rw [List.mem_singleton.mp hm]; exact ⟨hx, hy⟩
theorem Lns.up {m : Nat} {ls : List Ln} (h : Lns m ls) : Lns (m + 1) ls := ⟨Nat.le_succ_of_le h.1, h.2⟩
theorem Lns.step {m : Nat} {ls : List Ln} {k : Int} (h : Lns m ls) : Lns (m + 1) (stepD ls k) := by
  have h1 := nm_pins k
  have h2 := vl_vals k
  unfold stepD
  split
  · exact h.snoc h1.1 h2
  split
  · exact h.others.snoc h1.1 h2
  split
  · unfold dfltOf
    split
    · exact h.snoc h1.1 h2
    · exact h.up
  · exact h.others.up
theorem Lns.short {m : Nat} {ls : List Ln} (h : Lns m ls) (hm : m ≤ 100) : Short ls := ⟨Nat.le_trans h.1 hm, h.2⟩
theorem lns_at (sc : List Int) : ∀ i, Lns (6 + i) ((sc.take i).foldl stepD own0)
  | 0 => ⟨Nat.le_of_eq own0_ok.1, own0_ok.2⟩
  | i + 1 => by
    have ih := lns_at sc i
    show Lns (6 + i + 1) _
    rw [List.take_add_one]
    cases q : sc[i]? with
    | none => rw [Option.toList_none, List.append_nil]; exact ih.up
    | some k => rw [Option.toList_some, List.foldl_append]; exact ih.step
end Mine
end -- D0

section -- CC0
open PySem PySem.W PyProof.Rows PySem.Calls
set_option maxRecDepth 100000
set_option maxHeartbeats 1000000
namespace Mine
theorem new_env1 {M : Model} {A : Around} {E : Value → Shared → Prop} {s : Shared} {sc : Scope} {cl : List (Str × Addr)} {env : Env} {x : Str} {Q : Env → Shared → Prop} (hcells : ∀ k cl, cellsFrom k sc.names cl = (x, k) :: cl) (hpush : ∀ h, pushCells h sc.names = h.push { cls := .type "cell", data := .cell none })
    (hQ : Q { scope := sc, locals := s.heap.objs.size, globals := env.globals, cells := (x, s.heap.objs.size + 1) :: cl, qual := env.qual, func := none, code := env.code, frame := env.frame, builtins := env.builtins } { s with heap := (s.heap.push { cls := .type "dict", data := .dict #[] }).push { cls := .type "cell", data := .cell none } }) :
    wpAny M A (newFunctionEnv sc env.globals cl [] env.qual none .none (some env)) Q E s := by
  simp only [newFunctionEnv, Option.isSome_some, if_true]
  refine wpAny_bind (wpAny_alloc ?_)
  refine wpAny_bind (wpAny_layCells _ (fun name kind cells => by cases hkc : kind == NameKind.cell <;> simp [hkc]) _ _ _ _ ?_)
  rw [hcells, hpush]
  rw [show ({ s with heap := s.heap.push { cls := .type "dict", data := .dict #[] } } : Shared).heap.objs.size = s.heap.objs.size + 1 from Heap.size_push ..]
  exact wpAny_bind (wpAny_pure (wpAny_pure hQ))
end Mine
end -- CC0

section -- CC1
open PySem PySem.W PyProof.Rows PySem.Calls
set_option maxRecDepth 100000
namespace Mine
section
variable {C : Cx} {n : Nat} {I : Heap → Prop} {ρ : List (Str × AV)}
set_option maxHeartbeats 1000000 in
theorem comp_coreC {elt iter : Expr} {x : Str} {px pos pos' : Pos} {ifs : List Expr} {sc : Scope} {cl : List (Str × Addr)} {di : AV} {ds : List AV} {p : AV → Bool} {g : AV → AV} {ρ' : List (Str × AV)} {use : Option (Value → Sem Unit)} {s : Shared} {Q : Value → Shared → Prop} {E : Value → Shared → Prop} {I2 : List Addr → Heap → Prop}
    (hI2 : ∀ h X', I h → (∀ a ∈ X', a ∈ C.X ∨ h.get? a = none) → I2 X' h) (st2 : ∀ X' h h', Kp h h' → I2 X' h → I2 X' h')
    (P : Pre C n I ρ s.heap) (hi : J C n I ρ iter di) (it : Itr C n I ρ di ds) (hz : ds.length ≤ 1000)
    (hclos : closureFor sc C.env = pure cl) (hcells : ∀ k cl, cellsFrom k sc.names cl = (x, k) :: cl) (hpush : ∀ h, pushCells h sc.names = h.push { cls := .type "cell", data := .cell none }) (hkind : sc.kind = .function) (hnames : ∀ y ∈ sc.names, y.2 = .local → sc.names.lookup y.1 = some .local) (hx : (relabel sc C.env).names.lookup x = some .cell)
    (hs : ∀ v, foldedSetIterable iter C.env v = pure v)
    (hcap : ∀ y d, ρ'.lookup y = some d → y ≠ x ∧ ρ.lookup y = some d ∧ ∀ c2, Cap C.env sc ((x, c2) :: cl) y)
    (hbody : ∀ d ∈ ds, ∀ c c2 X', JT (inC C sc ((x, c2) :: cl) c X') n (I2 X') ((x, d) :: ρ') ifs (p d) ∧ (p d = true → J (inC C sc ((x, c2) :: cl) c X') n (I2 X') ((x, d) :: ρ') elt (g d)))
    (hQ : ∀ D c m s', Keeps s s' → s.heap.get? D = none → s.heap.get? c = none → s'.heap.Ns c m → Rd (c :: C.X) s'.heap (.ref D) (.lst ((ds.filter p).map g)) → compPost (model PR C.w) C.A E use Q (.ref D) c (.ok .next) s') :
    wpAny (model PR C.w) C.A (comprehension (.ListComp elt [⟨.Name x px, iter, ifs, 0⟩] sc pos) sc C.env pos' (newList []) false (eval iter C.env) use) Q E s := by
  refine wpAny_comprehension_free rfl hs hclos hkind hnames (hi.run s P _ _ fun vi s₁ k₁ r₁ => ?_)
  have P₁ := P.keeps k₁
  refine it.run s₁ vi _ _ P₁ r₁ fun It s₂ fp Pt St hIt k₂ W hst hfp hPt hown => ?_
  -- the new list
  refine wpAny_newObj_type ?_
  refine new_env1 hcells hpush ?_
  dsimp only
  generalize hD : s₂.heap.objs.size = D
  generalize hH2 : s₂.heap.push { cls := .type "list", dict := none, data := .seq ([] : List Value).toArray } = H2
  have hns₁ : ((H2.push { cls := .type "dict", data := .dict #[] }).push { cls := .type "cell", data := .cell none }).Ns H2.objs.size (fun _ => none) := (Heap.Ns.new H2 (.type "dict")).keeps fun b o e => Heap.get?_push_of_some _ e
  have hcl₁ : ((H2.push { cls := .type "dict", data := .dict #[] }).push { cls := .type "cell", data := .cell none }).IsCell (H2.objs.size + 1) none := ⟨_, by have := Heap.get?_push_size (H2.push { cls := .type "dict", data := .dict #[] }) (o := { cls := .type "cell", data := .cell none }) rfl; rw [Heap.size_push] at this; exact this, rfl⟩
  have hk₁ : Kp H2 ((H2.push { cls := .type "dict", data := .dict #[] }).push { cls := .type "cell", data := .cell none }) := (Kp.push _).trans (Kp.push _)
  generalize hH3 : (H2.push { cls := .type "dict", data := .dict #[] }).push { cls := .type "cell", data := .cell none } = h₁ at hns₁ hcl₁ hk₁ ⊢
  generalize hc : H2.objs.size = c at hns₁ hcl₁ ⊢
  generalize hc2 : c + 1 = c2 at hcl₁ ⊢
  have hcD : c = D + 1 := by rw [← hc, ← hH2, Heap.size_push, hD]
  have hDc : D ≠ c := by omega
  have hDc2 : D ≠ c2 := by omega
  have hcc2 : c ≠ c2 := by omega
  have kp₂ : Kp s₁.heap s₂.heap := keeps_kp k₂
  have missD₂ : s₂.heap.get? D = none := hD ▸ none_size _
  have missc₂ : s₂.heap.get? c = none := by
    cases q : s₂.heap.get? c with
    | none => rfl
    | some o => have := Heap.lt_size q; rw [hD, hcD] at this; exact absurd this (Nat.not_lt.mpr (Nat.le_succ _))
  have missc2₂ : s₂.heap.get? c2 = none := by
    cases q : s₂.heap.get? c2 with
    | none => rfl
    | some o => have := Heap.lt_size q; rw [hD, ← hc2, hcD] at this; exact absurd this (Nat.not_lt.mpr (Nat.le_trans (Nat.le_succ _) (Nat.le_succ _)))
  have miss : ∀ {b}, s₂.heap.get? b = none → s₁.heap.get? b = none := fun {b} q => by
    cases q' : s₁.heap.get? b with
    | none => rfl
    | some o => have := kp₂ b o q'; rw [q] at this; cases this
  have missD := miss missD₂
  have missc := miss missc₂
  have missc2 := miss missc2₂
  have hItD : It ≠ D := by
    intro q
    obtain ⟨o, T, e, _⟩ := hown 0 _ hst
    rw [q, missD₂] at e; cases e
  have hItc : It ≠ c := by
    intro q
    obtain ⟨o, T, e, _⟩ := hown 0 _ hst
    rw [q, missc₂] at e; cases e
  have hItc2 : It ≠ c2 := by
    intro q
    obtain ⟨o, T, e, _⟩ := hown 0 _ hst
    rw [q, missc2₂] at e; cases e
  have old₂ : Kp s₂.heap h₁ := fun b o e => hk₁ _ _ (hH2 ▸ Heap.get?_push_of_some _ e)
  have hacc : h₁.PlainList D #[] := ⟨0, hk₁ _ _ (by rw [← hH2, ← hD]; exact Heap.get?_push_size _ rfl)⟩
  have fpne : ∀ b ∈ fp, b ≠ D ∧ b ≠ c2 := by
    intro b hb
    rcases hfp b hb with rfl | ⟨_, o, e⟩
    · exact ⟨hItD, hItc2⟩
    · exact ⟨fun q => (by rw [q, missD] at e; cases e), fun q => (by rw [q, missc2] at e; cases e)⟩
  have hst₁ : St 0 h₁ := W.frame _ _ _ hst fun b _ o e => old₂ b o e
  let X' := c2 :: c :: D :: It :: C.X
  have X'miss : ∀ a ∈ X', a ∈ C.X ∨ s₁.heap.get? a = none := by
    intro a ha
    rcases List.mem_cons.mp ha with rfl | ha
    · exact .inr missc2
    rcases List.mem_cons.mp ha with rfl | ha
    · exact .inr missc
    rcases List.mem_cons.mp ha with rfl | ha
    · exact .inr missD
    rcases List.mem_cons.mp ha with rfl | ha
    · exact .inr hIt
    exact .inl ha
  have okI : (inC C sc ((x, c2) :: cl) c X').Ok n := by
    refine ⟨P.ok.K, P.ok.T, P.ok.hh, P.ok.depth, P.ok.units, hkind, P.ok.glob, P.ok.blt, fun a ha => ?_, fun a ha => nomatch ha⟩
    rcases X'miss a ha with m | m
    · exact P.ok.low a m
    · cases q : C.H0.get? a with
      | none => rfl
      | some o => have := P₁.old a o q; rw [m] at this; cases this
  have loop : ∀ s₃ : Shared, s₃ = { s₂ with heap := h₁, toks := s₂.toks } →
      codeAny (model PR C.w) C.A (.compLoop (.ListComp elt [⟨.Name x px, iter, ifs, 0⟩] sc pos) 0 (.ref It) (.ref D) (compEnvC sc ((x, c2) :: cl) c C.env)) (compPost (model PR C.w) C.A E use Q (.ref D) c) s₃ := by
    rintro s₃ rfl
    refine codeAny_compLoop_tests (fun k s' => ∃ h' tk i ys m' z, s' = { s₂ with heap := h', toks := tk } ∧ St i h' ∧ h'.PlainList D ys ∧ h'.Ns c m' ∧ h'.IsCell c2 z ∧ RdAll X' h' ys.toList (((ds.take i).filter p).map g) ∧ i ≤ ds.length ∧ k = ds.length + 1 - i ∧ Kp s₁.heap h') ?_ (ds.length + 1)
      ⟨h₁, _, 0, #[], _, _, rfl, hst₁, hacc, hns₁, hcl₁, by simpa using RdAll.nil, Nat.zero_le _, rfl, kp₂.trans old₂⟩
    rintro k s' ⟨H, tk, i, ys, m', z, rfl, hst', hacc', hn', hz', hR, hle, rfl, hk⟩
    by_cases hlt : i < ds.length
    · refine W.item i _ _ _ hlt hst' fun u hA tkA hPu hstA hkA => ?_
      obtain ⟨d, hd, rd⟩ := hPt i u hPu
      have hcw : c ∉ [It] := by simp [Ne.symm hItc]
      have hDw : D ∉ [It] := by simp [Ne.symm hItD]
      have hc2w : c2 ∉ [It] := by simp [Ne.symm hItc2]
      refine wpAny_assign_Name (wpAny_storeName_cell (env := compEnvC sc ((x, c2) :: cl) c C.env) (by simp [compEnvC, relabel, hkind]) hx (c := c2) (by simp [compEnvC]) (cellAt hz' fun o e => hkA _ o hc2w e) fun hB hnB hsB => ?_)
      have hnsB : hB.Ns c m' := (hn'.at' fun o e => hkA _ o hcw e).sameBut hsB hcc2
      have kB : Kp s₁.heap hB := fun b o e => (hsB.2 b (fun q => by have q' : b = c2 := q; rw [q', missc2] at e; cases e)).trans (hkA b o (fun m => by rw [List.mem_singleton.mp m, hIt] at e; cases e) (hk b o e))
      have accB : hB.PlainList D ys := by
        obtain ⟨q, e⟩ := hacc'
        exact ⟨q, (hsB.2 D hDc2).trans (hkA D _ hDw e)⟩
      have stB : St (i + 1) hB := W.frame _ _ _ hstA fun b hb o e => (hsB.2 b (fpne b hb).2).trans e
      have kX : KpBut X' H hB := fun b o nb e => (hsB.2 b fun q => nb (by rw [show b = c2 from q]; exact .head _)).trans (hkA b o (fun m => nb (by rw [List.mem_singleton.mp m]; exact .tail _ (.tail _ (.tail _ (.head _))))) e)
      have hRB := hR.mono kX
      have preB : Pre (inC C sc ((x, c2) :: cl) c X') n (I2 X') ((x, d) :: ρ') hB := by
        refine ⟨okI, P₁.old.trans kB, ?_, st2 _ _ _ kB (hI2 _ _ P₁.inv X'miss), st2 X', ?_⟩
        · intro a ha
          rcases List.mem_cons.mp ha with rfl | ha
          · obtain ⟨o, e, _⟩ := hnB; exact ⟨o, e⟩
          rcases List.mem_cons.mp ha with rfl | ha
          · obtain ⟨o, _, _, e, _⟩ := hnsB; exact ⟨o, e⟩
          rcases List.mem_cons.mp ha with rfl | ha
          · obtain ⟨q, e⟩ := accB; exact ⟨_, e⟩
          rcases List.mem_cons.mp ha with rfl | ha
          · obtain ⟨o, T, e, _⟩ := hown _ _ stB; exact ⟨o, e⟩
          obtain ⟨o, e⟩ := P₁.ex a ha; exact ⟨o, kB _ _ e⟩
        · intro y e he
          by_cases q : y = x
          · subst q
            rw [lookup_cons_eq] at he
            cases he
            exact ⟨u, .cell hx (c := c2) (by simp [compEnvC]) hnB, (rd.re X'miss).mono kB.but⟩
          · rw [lookup_cons_ne q] at he
            obtain ⟨-, h1, h2⟩ := hcap y e he
            obtain ⟨v, l, r⟩ := P₁.vars y e h1
            exact ⟨v, cap_look (h2 c2) l kB, (r.re X'miss).mono kB.but⟩
      have hm : d ∈ ds := List.mem_of_getElem? hd
      obtain ⟨hT, hE⟩ := hbody d hm c c2 X'
      refine hT.run _ preB _ _ fun s₅ k₅ => ?_
      obtain ⟨hC, tkC, rfl, kC⟩ := k₅
      have kC : Kp hB hC := kC
      have preC := preB.kp kC
      have snoc := filter_snoc (p := p) (g := g) hd
      cases hpd : p d with
      | false =>
        simp only [Bool.false_eq_true, if_false]
        refine ⟨ds.length + 1 - (i + 1), by omega, hC, tkC, i + 1, ys, _, _, rfl, W.frame _ _ _ stB fun b _ o e => kC b o e, ?_, hnsB.keeps kC, Heap.IsCell.kp kC hnB, ?_, hlt, rfl, kB.trans kC⟩
        · obtain ⟨q, e⟩ := accB; exact ⟨q, kC _ _ e⟩
        · rw [snoc, hpd]; simpa using hRB.mono (Kp.but kC)
      | true =>
        simp only [if_true]
        refine (hE hpd).run _ preC _ _ fun y s₆ k₆ ry => ?_
        obtain ⟨hF, tkF, rfl, kF⟩ := k₆
        have kF : Kp hC hF := kF
        have accF : hF.PlainList D ys := by obtain ⟨q, e⟩ := accB; exact ⟨q, kF _ _ (kC _ _ e)⟩
        have hys : ys.size ≤ sizeLine := by
          have e1 := hR.length
          rw [List.length_map, Array.length_toList] at e1
          have e2 : ((ds.take i).filter p).length ≤ (ds.take i).length := List.length_filter_le _ _
          have e3 : (ds.take i).length ≤ ds.length := List.length_take_le' ..
          have : (1000 : Nat) ≤ sizeLine := by decide
          omega
        refine wpAny_list_append_plain (hsz := hys) accF fun hG accG hsG => ?_
        have kG : KpBut X' hF hG := fun b o nb e => (hsG.2 b fun q => nb (by rw [show b = D from q]; exact .tail _ (.tail _ (.head _)))).trans e
        refine ⟨ds.length + 1 - (i + 1), by omega, hG, tkF, i + 1, ys.push y, _, _, rfl, W.frame _ _ _ stB fun b hb o e => (hsG.2 b (fpne b hb).1).trans (kF _ _ (kC _ _ e)), accG, ((hnsB.keeps kC).keeps kF).sameBut hsG (Ne.symm hDc), cell_same hsG (Heap.IsCell.kp kF (Heap.IsCell.kp kC hnB)) (Ne.symm hDc2), ?_, hlt, rfl, ?_⟩
        · rw [snoc, hpd, Array.toList_push]
          simp only [if_true]
          exact ((hRB.mono (Kp.but (kC.trans kF))).mono kG).append (.cons (ry.mono kG) .nil)
        · intro b o e
          exact (hsG.2 b (fun q => by rw [show b = D from q, missD] at e; cases e)).trans (kF _ _ (kC _ _ (kB _ _ e)))
    · have hin : i = ds.length := by omega
      subst hin
      refine W.done _ _ _ hst' fun hA tkA hkA => ?_
      have hcw : c ∉ [It] := by simp [Ne.symm hItc]
      have hDw : D ∉ [It] := by simp [Ne.symm hItD]
      rw [List.take_length] at hR
      have kX : KpBut X' H hA := fun b o nb e => hkA b o (fun m => nb (by rw [List.mem_singleton.mp m]; exact .tail _ (.tail _ (.tail _ (.head _))))) e
      have kA : Kp s₁.heap hA := fun b o e => hkA b o (fun m => by rw [List.mem_singleton.mp m, hIt] at e; cases e) (hk b o e)
      obtain ⟨q, e⟩ := hacc'
      obtain ⟨hq, tq, rfl, kq⟩ := k₁
      obtain ⟨hq₂, tq₂, rfl, kq₂⟩ := k₂
      have missD₀ : s.heap.get? D = none := by
        cases q' : s.heap.get? D with
        | none => rfl
        | some o => have := kq D o q'; rw [missD] at this; cases this
      have missc₀ : s.heap.get? c = none := by
        cases q' : s.heap.get? c with
        | none => rfl
        | some o => have := kq c o q'; rw [missc] at this; cases this
      refine hQ D c _ _ ⟨hA, tkA, rfl, fun b o e => kA b o (kq b o e)⟩ missD₀ missc₀ (hn'.at' fun o e => hkA _ o hcw e) (.lst (n := q) (vs := ys.toList) ?_ (by simpa using hkA D _ hDw e) ((hR.mono kX).re fun a ha => .inl ?_))
      · intro m
        rcases List.mem_cons.mp m with e | m
        · exact hDc e
        · exact P.fresh missD₀ m
      · rcases List.mem_cons.mp ha with rfl | m
        · exact .tail _ (.head _)
        · exact .tail _ (.tail _ (.tail _ (.tail _ m)))
  exact codeAny_compStart_list (loop _ rfl) (W.self 0 _ _ _ hst₁ (loop _ rfl))
end
end Mine
end -- CC1

section -- CC2
open PySem PySem.W PyProof.Rows PySem.Calls
set_option maxRecDepth 100000
namespace Mine
section
variable {C : Cx} {n : Nat} {I : Heap → Prop} {ρ : List (Str × AV)}
theorem JS_assignCC {elt iter : Expr} {x y : Str} {px py pos spos : Pos} {ifs : List Expr} {sc : Scope} {di : AV} {ds : List AV} {p : AV → Bool} {g : AV → AV} {ρ' : List (Str × AV)} {rest : List Stmt} {Post : Out → Prop} {I2 : List Addr → Heap → Prop}
    (hI2 : ∀ h X', I h → (∀ a ∈ X', a ∈ C.X ∨ h.get? a = none) → I2 X' h) (st2 : ∀ X' h h', Kp h h' → I2 X' h → I2 X' h')
    (hi : J C n I ρ iter di) (it : Itr C n I ρ di ds) (hz : ds.length ≤ 1000)
    (hcap : ∀ y d, ρ'.lookup y = some d → y ≠ x ∧ ρ.lookup y = some d ∧ ∀ c2, Cap C.env sc ((x, c2) :: closOf sc C.env) y)
    (hbody : ∀ d ∈ ds, ∀ c c2 X', JT (inC C sc ((x, c2) :: closOf sc C.env) c X') n (I2 X') ((x, d) :: ρ') ifs (p d) ∧ (p d = true → J (inC C sc ((x, c2) :: closOf sc C.env) c X') n (I2 X') ((x, d) :: ρ') elt (g d)))
    (hy : Own C y) (k : JS C n I ((y, .lst ((ds.filter p).map g)) :: ρ) rest Post)
    (hsw : swapsWith (.ListComp elt [⟨.Name x px, iter, ifs, 0⟩] sc pos) (some (.Name y py)) spos.line C.env = pure true := by rfl)
    (hclos : closureFor sc C.env = pure (closOf sc C.env) := by rfl) (hcells : ∀ k cl, cellsFrom k sc.names cl = (x, k) :: cl := by intro _ _; rfl) (hpush : ∀ h, pushCells h sc.names = h.push { cls := .type "cell", data := .cell none } := by intro _; rfl) (hkind : sc.kind = .function := by rfl) (hnames : ∀ y ∈ sc.names, y.2 = .local → sc.names.lookup y.1 = some .local := by decide) (hx : (relabel sc C.env).names.lookup x = some .cell := by rfl)
    (hs : ∀ v, foldedSetIterable iter C.env v = pure v := by intro _; rfl) : JS C n I ρ (.Assign [.Name y py] (.ListComp elt [⟨.Name x px, iter, ifs, 0⟩] sc pos) spos :: rest) Post := by
  refine ⟨fun s P Q E hN hR => ?_⟩
  refine wpAny_execs_cons ?_
  rw [exec_Assign_Name_used _ _ _ _ hsw]
  refine wpAny_bind (wpAny_standAt (wpAny_bind ?_))
  show wpAny _ C.A (do let _ ← comprehension (.ListComp elt [⟨.Name x px, iter, ifs, 0⟩] sc pos) sc C.env _ (newList []) false (eval iter C.env) (some (assign (.Name y py) C.env))) _ _ s
  refine wpAny_bind (wpAny_mono (Q := fun _ s' => Ch C.W s s' ∧ SP C n I ((y, .lst ((ds.filter p).map g)) :: ρ) s'.heap) ?_ (fun _ s' hq => wpAny_pure (wpAny_pure ?_)) fun _ _ e => e)
  · refine comp_coreC (use := some (assign (.Name y py) C.env)) hI2 st2 P.toPre hi it hz hclos hcells hpush hkind hnames hx hs hcap hbody fun D c m s' k hD hc hn r => ?_
    show wpAny _ C.A (assign (.Name y py) C.env (.ref D)) _ _ s'
    have kp := keeps_kp k
    have P' : SP C n I ρ s'.heap := P.keeps k
    refine wpAny_assign_Name (store P' hy (r.re fun a m => .inl (.tail _ m)) fun s₂ k₂ P₂ => ?_)
    have hcW : c ∉ frA C.env := fun m => P.toPre.fresh hc (P.ok.sub _ (P.fw.inW _ m))
    obtain ⟨h₂, tk₂, rfl, kk⟩ := k₂
    have hn₂ : h₂.Ns c m := by
      obtain ⟨o, es, ep, e, r⟩ := hn
      exact ⟨o, es, ep, kk _ _ hcW e, r⟩
    refine ⟨m, hn₂, fun h₃ hs₃ => ?_⟩
    obtain ⟨h, tk, rfl, k⟩ := k
    have kF : KpBut (frA C.env) s.heap h₃ := fun b o nb e => (hs₃.2 b fun q => by rw [q, hc] at e; cases e).trans (kk b o nb (k b o e))
    refine ⟨⟨h₃, _, rfl, kF.mono P.fw.inW⟩, P₂.but (NoDat.ns hn₂) (P.toPre.fresh hc) ?_ (fun b o nb e => (hs₃.2 b nb).trans e) (P.sf _ _ kF.it P.inv)⟩
    cases q : C.H0.get? c with
    | none => rfl
    | some o => have := P.old c o q; rw [hc] at this; cases this
  · exact k.run s' hq.2 _ _ (fun I' ρ' s'' p c => hN I' ρ' s'' p (hq.1.trans c)) fun I' ρ' d v s'' p c => hR I' ρ' d v s'' p (hq.1.trans c)
end
end Mine
end -- CC2

section -- D1
open PySem PySem.W PyProof.Rows PySem.Calls
set_option maxRecDepth 100000
set_option maxHeartbeats 1000000
namespace Mine
theorem pins_ok : ∀ x ∈ pins, PyData.strOk x = true := by decide +kernel
theorem vals_ok : ∀ x ∈ vals, PyData.strOk x = true := by decide +kernel
theorem lnsA_flat : ∀ ls : List Ln, (AV.lst (ls.map lineA)).flat = true := by
  intro ls
  show AV.flats _ = true
  induction ls with
  | nil => rfl
  | cons kv ls ih => rw [List.map_cons]; unfold AV.flats; rw [ih]; rfl
theorem lnsA_py (ls : List Ln) : (AV.lst (ls.map lineA)).py = .list (ls.map fun kv => .tuple [.str kv.1, .str kv.2]) := by
  show PyData.list (AV.pys _) = _
  congr 1
  induction ls with
  | nil => rfl
  | cons kv ls ih => rw [List.map_cons, List.map_cons]; unfold AV.pys; rw [ih]; rfl
theorem lnsA_shaped {m : Nat} {ls : List Ln} (h : Lns m ls) : SeqAt.shaped (AV.lst (ls.map lineA)).py = true := by
  rw [lnsA_py]
  have key : PyData.canLayAll0 (ls.map fun kv => PyData.tuple [.str kv.1, .str kv.2]) = true ∧ PyData.depthAll (ls.map fun kv => PyData.tuple [.str kv.1, .str kv.2]) ≤ 2 := by
    have h2 := h.2
    clear h
    induction ls with
    | nil => simp [PyData.canLayAll0, PyData.depthAll]
    | cons kv ls ih =>
      have h1 := h2 kv (.head _)
      have h3 := ih fun j m => h2 j (.tail _ m)
      have a1 := pins_ok _ h1.1
      have a2 := vals_ok _ h1.2
      simp only [List.map_cons, PyData.canLayAll0, PyData.depthAll, PyData.canLay0, PyData.depth, a1, a2, h3.1, Bool.and_self, true_and]
      have := h3.2
      omega
  unfold SeqAt.shaped
  simp only [PyData.canLay0, PyData.depth, key.1, Bool.true_and]
  have := key.2
  exact decide_eq_true (by omega)
theorem lines_eq (ls : List Ln) (x : Str) : ((ls.map lineA).filter (pLow x)).map (fun d => d) = (linesOf ls x).map lineA := by
  unfold linesOf
  rw [List.map_id']
  induction ls with
  | nil => rfl
  | cons kv ls ih =>
    rw [List.map_cons, List.filter_cons, List.filter_cons]
    have : pLow x (lineA kv) = (Txt.lower kv.1 == x) := rfl
    rw [this]
    cases (Txt.lower kv.1 == x) with
    | true => simp only [if_true, List.map_cons, ih]
    | false => simpa using ih
theorem mem3 {a b c : Addr} {X : List Addr} : c ∈ a :: b :: c :: X := .tail _ (.tail _ (.head _))
theorem first_kv (ls : List Ln) (x y : Str) : ∃ kv : Ln, ((linesOf ls (Txt.lower x)).map lineA ++ [lineA (x, y)])[0]? = some (lineA kv) ∧ kv.2 = dfltV ls x y := by
  unfold dfltV
  cases linesOf ls (Txt.lower x) with
  | nil => exact ⟨(x, y), rfl, rfl⟩
  | cons kv r => exact ⟨kv, rfl, rfl⟩
/-- the state after a deed -/
noncomputable def DStep (ls : List Ln) (t dx l : Addr) (C : Cx) : Out → Prop
  | .next I' ρ' => I' = Tab C.X t dx l (ls.map lineA) ∧ List.lookup ("table" : Str) ρ' = some (.at t) ∧ List.lookup ("own" : Str) ρ' = some (.lst (ls.map lineA)) ∧ List.lookup ("right" : Str) ρ' = some (.bool true)
  | .ret _ _ => False
theorem step0 {ls : List Ln} {k : Int} (h : (dd k == 0) = true) : stepD ls k = ls ++ [(nmD k, vlD k)] := by unfold stepD; rw [if_pos (by simpa using h)]
theorem step1 {ls : List Ln} {k : Int} (h0 : (dd k == 0) = false) (h : (dd k == 1) = true) : stepD ls k = othersOf ls (Txt.lower (nmD k)) ++ [(nmD k, vlD k)] := by unfold stepD; rw [if_neg (by simpa using h0), if_pos (by simpa using h)]
theorem step2 {ls : List Ln} {k : Int} (h0 : (dd k == 0) = false) (h1 : (dd k == 1) = false) (h : (dd k == 2) = true) : stepD ls k = dfltOf ls (nmD k) (vlD k) := by unfold stepD; rw [if_neg (by simpa using h0), if_neg (by simpa using h1), if_pos (by simpa using h)]
theorem step3 {ls : List Ln} {k : Int} (h0 : (dd k == 0) = false) (h1 : (dd k == 1) = false) (h2 : (dd k == 2) = false) : stepD ls k = othersOf ls (Txt.lower (nmD k)) := by unfold stepD; rw [if_neg (by simpa using h0), if_neg (by simpa using h1), if_neg (by simpa using h2)]
theorem others_len (ls : List Ln) (x : Str) : (othersOf ls x).length ≤ ls.length := List.length_filter_le _ _
theorem lines_len (ls : List Ln) (x : Str) : (linesOf ls x).length ≤ ls.length := List.length_filter_le _ _
/-- a clause as texts -/
noncomputable def gcl (ls : List Ln) : AV → AV
  | .str x => .lst ((linesOf ls x).map fun kv => .str kv.2)
  | d => d
noncomputable def gall (ls : List Ln) : AV → AV
  | .str x => .lst ((linesOf ls (Txt.lower x)).map fun kv => .str kv.2)
  | d => d
/-- the clauses as data -/
noncomputable def clsD (ls : List Ln) : List AV := ((signs "rst").filter fun _ => true).map (gcl ls)
theorem told_eq (ls : List Ln) : ((signs "RST").filter fun _ => true).map (gall ls) = clsD ls := by
  have e1 : signs "RST" = [.str "R", .str "S", .str "T"] := by kernel_rfl
  have e2 : signs "rst" = [.str "r", .str "s", .str "t"] := by kernel_rfl
  have l1 : Txt.lower ("R" : Str) = "r" := by decide +kernel
  have l2 : Txt.lower ("S" : Str) = "s" := by decide +kernel
  have l3 : Txt.lower ("T" : Str) = "t" := by decide +kernel
  unfold clsD
  rw [e1, e2]
  show [gall ls (.str "R"), gall ls (.str "S"), gall ls (.str "T")] = [gcl ls (.str "r"), gcl ls (.str "s"), gcl ls (.str "t")]
  unfold gall gcl
  simp only [l1, l2, l3]
/-- a value's place -/
noncomputable def vidx (y : Str) : Nat := vals.findIdx (· == y)
theorem lett_vidx : ∀ y ∈ vals, lett (vidx y) = y ∧ vidx y < 6 := by decide +kernel
/-- the clauses -/
noncomputable def cls (ls : List Ln) : List (List Nat) := (["r", "s", "t"] : List Str).map fun x => (linesOf ls x).map fun kv => vidx kv.2
theorem clsD_eq {m : Nat} {ls : List Ln} (h : Lns m ls) : clsD ls = (cls ls).map clA := by
  have e2 : signs "rst" = [.str "r", .str "s", .str "t"] := by kernel_rfl
  have key : ∀ x, gcl ls (.str x) = clA ((linesOf ls x).map fun kv => vidx kv.2) := by
    intro x
    show AV.lst _ = AV.lst _
    rw [List.map_map]
    congr 1
    apply List.map_congr_left
    intro kv hm
    show AV.str kv.2 = AV.str (lett (vidx kv.2))
    rw [(lett_vidx _ (h.2 kv (List.mem_filter.mp hm).1).2).1]
  unfold clsD
  rw [e2]
  show [gcl ls (.str "r"), gcl ls (.str "s"), gcl ls (.str "t")] = _
  rw [key, key, key]
  rfl
theorem cls_lt {m : Nat} {ls : List Ln} (h : Lns m ls) : ∀ c ∈ cls ls, (∀ i ∈ c, i < 6) ∧ c.length ≤ m := by
  intro c hc
  obtain ⟨x, _, rfl⟩ := List.mem_map.mp hc
  refine ⟨fun i hi => ?_, ?_⟩
  · obtain ⟨kv, hm, rfl⟩ := List.mem_map.mp hi
    exact (lett_vidx _ (h.2 kv (List.mem_filter.mp hm).1).2).2
  · rw [List.length_map]; exact Nat.le_trans (lines_len _ _) h.1
theorem clsA_flat : ∀ cs : List (List Nat), (AV.lst (cs.map clA)).flat = true := by
  intro cs
  show AV.flats _ = true
  induction cs with
  | nil => rfl
  | cons c cs ih => rw [List.map_cons]; unfold AV.flats; rw [ih, clA_flat]; rfl
theorem clsA_shaped {cs : List (List Nat)} (h : ∀ c ∈ cs, ∀ i ∈ c, i < 6) : SeqAt.shaped (AV.lst (cs.map clA)).py = true := by
  have e : (AV.lst (cs.map clA)).py = .list (cs.map fun c => (clA c).py) := by
    show PyData.list (AV.pys _) = _
    congr 1
    clear h
    induction cs with
    | nil => rfl
    | cons c cs ih => rw [List.map_cons, List.map_cons]; unfold AV.pys; rw [ih]
  rw [e]
  have key : PyData.canLayAll0 (cs.map fun c => (clA c).py) = true ∧ PyData.depthAll (cs.map fun c => (clA c).py) ≤ 3 := by
    clear e
    induction cs with
    | nil => simp [PyData.canLayAll0, PyData.depthAll]
    | cons c cs ih =>
      have h3 := ih fun j m => h j (.tail _ m)
      have h1 := clA_shaped (h c (.head _))
      have hd : PyData.depth (clA c).py ≤ 3 := by
        rw [clA_py]
        have : PyData.depthAll (c.map fun i => PyData.str (lett i)) ≤ 1 := by
          clear h ih h3 h1
          induction c with
          | nil => simp [PyData.depthAll]
          | cons i c ih => simp only [List.map_cons, PyData.depthAll, PyData.depth]; omega
        simp only [PyData.depth]; omega
      unfold SeqAt.shaped at h1
      rw [Bool.and_eq_true] at h1
      simp only [List.map_cons, PyData.canLayAll0, PyData.depthAll, h1.1, h3.1, Bool.and_self, true_and]
      have := h3.2
      omega
  unfold SeqAt.shaped
  simp only [PyData.canLay0, PyData.depth, key.1, Bool.true_and]
  have := key.2
  exact decide_eq_true (by omega)
/-- the state of the loop -/
noncomputable def DInv (sc : List Int) (t dx l : Addr) (C : Cx) (i : Nat) (I' : Heap → Prop) (ρ' : List (Str × AV)) : Prop :=
  I' = Tab C.X t dx l (((sc.take i).foldl stepD own0).map lineA) ∧ List.lookup ("table" : Str) ρ' = some (.at t) ∧ List.lookup ("own" : Str) ρ' = some (.lst (((sc.take i).foldl stepD own0).map lineA)) ∧ List.lookup ("right" : Str) ρ' = some (.bool true)
section
variable {C : Cx} {n : Nat} {I : Heap → Prop} {ρ : List (Str × AV)}
theorem JE_eqS {I' : Heap → Prop} {l r : Expr} {pos : Pos} {a b : Str} (hl : JE C n I ρ l I' (.str a)) (hr : J C n I' ρ r (.str b)) (hm : behindInMarks .Eq r = false := by rfl) : JE C n I ρ (.Compare l [.Eq] [r] pos) I' (.bool (a == b)) := by
  refine ⟨fun s P Q E hQ => ?_⟩
  refine wpAny_Compare1 (hl.run s P _ _ fun x s₁ c₁ P₁ r₁ => hr.run s₁ P₁.toPre _ _ fun y s₂ k₂ r₂ => ?_) hm
  cases r₁
  cases r₂
  exact eq_str (hQ _ _ (c₁.trans (Ch.of k₂)) (P₁.keeps k₂) (.bool _))
theorem JE_cast {I' : Heap → Prop} {e : Expr} {d d' : AV} (h : d = d') (k : JE C n I ρ e I' d) : JE C n I ρ e I' d' := h ▸ k
theorem JE_and {I' : Heap → Prop} {l r : Expr} {pos : Pos} {a b : Bool} (hl : JE C n I ρ l I' (.bool a)) (hr : J C n I' ρ r (.bool b)) : JE C n I ρ (.BoolOp .And [l, r] pos) I' (.bool (a && b)) := by
  refine ⟨fun s P Q E hQ => ?_⟩
  refine BoolOp_and (hl.run s P _ _ fun x s₁ c₁ P₁ r₁ => ?_)
  cases r₁
  refine wpAny_truthy_bool ?_
  cases a with
  | true => rw [if_pos rfl]; exact BoolOp_one (hr.run s₁ P₁.toPre _ _ fun y s₂ k₂ r₂ => hQ y s₂ (c₁.trans (Ch.of k₂)) (P₁.keeps k₂) (by rw [Bool.true_and]; exact r₂))
  | false => rw [if_neg Bool.false_ne_true]; exact hQ _ s₁ c₁ P₁ (by rw [Bool.false_and]; exact .bool _)
theorem fm_add (w : World) : findIn (HK w.params) (.ref 175) "add_header" = some (some (.ref 172)) := by kernel_rfl
theorem fn_add (w : World) : isFn (HK w.params) (.ref 172) = true := by kernel_rfl
theorem kp_add (w : World) : keepIn (HK w.params) (.ref 172) = true := by kernel_rfl
theorem fm_dflt (w : World) : findIn (HK w.params) (.ref 175) "setdefault" = some (some (.ref 165)) := by kernel_rfl
theorem fn_dflt (w : World) : isFn (HK w.params) (.ref 165) = true := by kernel_rfl
theorem kp_dflt (w : World) : keepIn (HK w.params) (.ref 165) = true := by kernel_rfl
theorem fm_all (w : World) : findIn (HK w.params) (.ref 175) "get_all" = some (some (.ref 114)) := by kernel_rfl
theorem fn_all (w : World) : isFn (HK w.params) (.ref 114) = true := by kernel_rfl
theorem kp_all (w : World) : keepIn (HK w.params) (.ref 114) = true := by kernel_rfl
theorem fm_items (w : World) : findIn (HK w.params) (.ref 175) "items" = some (some (.ref 139)) := by kernel_rfl
theorem fn_items (w : World) : isFn (HK w.params) (.ref 139) = true := by kernel_rfl
theorem kp_items (w : World) : keepIn (HK w.params) (.ref 139) = true := by kernel_rfl
theorem capC_one {env : Env} {sc : Scope} {cl : List (Str × Addr)} {x y0 : Str} {d0 : AV} (hne : y0 ≠ x) (h : List.lookup y0 ρ = some d0) (hc : ∀ c2, Cap env sc ((x, c2) :: cl) y0) : ∀ y d, List.lookup y [(y0, d0)] = some d → y ≠ x ∧ List.lookup y ρ = some d ∧ ∀ c2, Cap env sc ((x, c2) :: cl) y := by
  intro y d e
  by_cases q : y = y0
  · subst q
    rw [lookup_cons_eq] at e
    cases e
    exact ⟨hne, h, hc⟩
  · rw [lookup_cons_ne q] at e; cases e
theorem J_and3 {a b c : Expr} {pos : Pos} (ha : J C n I ρ a (.bool true)) (hb : J C n I ρ b (.bool true)) (hc : J C n I ρ c (.bool true)) : J C n I ρ (.BoolOp .And [a, b, c] pos) (.bool true) := by
  refine ⟨fun s P Q E hQ => ?_⟩
  refine BoolOp_and (ha.run s P _ _ fun x s₁ k₁ r₁ => ?_)
  cases r₁
  refine wpAny_truthy_bool ?_
  rw [if_pos rfl]
  exact (J_and (C := C) (pos := pos) hb fun _ => hc).run s₁ (P.keeps k₁) _ _ fun y s₂ k₂ r₂ => hQ y s₂ (keeps_trans k₁ k₂) r₂
theorem shaped_lay {d : PyData} (h : SeqAt.shaped d = true) : d.canLay0 = true := by
  unfold SeqAt.shaped at h
  rw [Bool.and_eq_true] at h
  exact h.1
theorem JS_forC {target iter : Expr} {body rest : List Stmt} {pos : Pos} {di : AV} {ds : List AV} {Post : Out → Prop} (Inv : Cx → Nat → (Heap → Prop) → List (Str × AV) → Prop) (hi : J C n I ρ iter di) (it : Itr C n I ρ di ds)
    (h0 : Inv C 0 I ρ)
    (turn : ∀ i d I' ρ', ds[i]? = some d → Inv C i I' ρ' → ∃ ρ₁, JA C n I' ρ' target d ρ₁ ∧ JS C n I' ρ₁ body (fun o => match o with | .next I'' ρ'' => Inv C (i + 1) I'' ρ'' | .ret I'' e => Post (.ret I'' e)))
    (after : ∀ I' ρ', Inv C ds.length I' ρ' → JS C n I' ρ' rest Post)
    (hs : ∀ v, foldedSetIterable iter C.env v = pure v := by intro _; rfl) : JS C n I ρ (.For target iter body [] pos :: rest) Post := JS_for hi it (Inv C) h0 turn after hs
theorem take_step {sc : List Int} {i : Nat} {k : Int} (h : sc[i]? = some k) : (sc.take (i + 1)).foldl stepD own0 = stepD ((sc.take i).foldl stepD own0) k := by
  rw [List.take_add_one, h, Option.toList_some, List.foldl_append]; rfl
theorem calls_deeds {sc : List Int} (hsc : sc.length ≤ 1000) : CallsB C (n + 4) I ρ (.ref 211) [.lst (sc.map .int)] (.tup [.lst ((cls (deedsF sc)).map clA), .bool true]) := by
  refine' calls_pure (x := "script") ?ho ?hcd ?hbind ?hkind ?hcn ?hco ?hgen ?hk ?hb
  case ho => (unfold HK fragOf; k_is)
  case hcd => (unfold HK fragOf; k_is)
  case hbind => exact fun _ => rfl
  case hkind => exact rfl
  case hcn => decide
  case hco => exact rfl
  case hgen => exact rfl
  case hk => exact rfl
  case hb =>
    intro L
    refine JS_assign (d := .lst (own0.map lineA)) ?_ (.cell rfl rfl) ?_
    · exact J_list (JL_cons (J_tuple (JL_cons J_str (JL_cons J_str JL_nil))) (JL_cons (J_tuple (JL_cons J_str (JL_cons J_str JL_nil))) (JL_cons (J_tuple (JL_cons J_str (JL_cons J_str JL_nil))) (JL_cons (J_tuple (JL_cons J_str (JL_cons J_str JL_nil))) (JL_cons (J_tuple (JL_cons J_str (JL_cons J_str JL_nil))) (JL_cons (J_tuple (JL_cons J_str (JL_cons J_str JL_nil))) JL_nil))))))
    refine JS_new (.cell rfl rfl) (.loc rfl) rfl ((lns_at sc 0).short (by decide)) fun t dx l ft fd fl => ?_
    have off : Off (newC (callC C [] _ _ L 211 _) t dx l) t dx l := ⟨.tail _ (.tail _ (.head _)), ft, fd, fl⟩
    refine JS_forC (DInv (sc.take 8) t dx l) (di := .lst ((sc.take 8).map .int)) (J_cast (by rw [List.map_take]) (J_sliceU (k := 8) (J_name rfl) J_int (by rw [List.length_map]; exact hsc))) Itr_lst ⟨rfl, rfl, rfl, rfl⟩ ?_ ?_
    · rintro i d I' ρ₁ hd ⟨rfl, htab, hown, hright⟩
      obtain ⟨k, hk, rfl⟩ : ∃ k, (sc.take 8)[i]? = some k ∧ d = .int k := by
        rw [List.getElem?_map] at hd
        cases q : (sc.take 8)[i]? with
        | none => rw [q] at hd; cases hd
        | some k => rw [q] at hd; exact ⟨k, rfl, (Option.some.inj hd).symm⟩
      have hi8 : i < 8 := by
        have := (List.getElem?_eq_some_iff.mp hk).1
        rw [List.length_take] at this; omega
      have hL := lns_at (sc.take 8) i
      have hS := hL.short (by omega : 6 + i ≤ 100)
      have hst := take_step hk
      have hpn := nm_pins k
      have hvl := vl_vals k
      unfold DInv
      rw [hst]
      generalize ((sc.take 8).take i).foldl stepD own0 = ls at *
      refine ⟨_, JA_name (.loc rfl), ?_⟩
      refine JS_assignT (d := .tup [.str (nmD k), .str (vlD k), .int (dd k)]) (J_tuple (JL_cons (J_cast (by rw [item_nm]) (J_itemS J_str (J_mod (J_name rfl) J_int (by decide)) (fmod_lt6 k).1 (fmod_lt6 k).2 (by decide))) (JL_cons (J_cast (by rw [item_vl]) (J_itemS J_str (J_mod (J_divK (J_name rfl) J_int (by decide) (by decide)) J_int (by decide)) (fmod_lt6 _).1 (fmod_lt6 _).2 (by decide))) (JL_cons (J_mod (J_divK (J_name rfl) J_int (by decide) (by decide)) J_int (by decide)) JL_nil)))) (JA_tup (JAs_cons (JA_name (.cell rfl rfl)) (JAs_cons (JA_name (.loc rfl)) (JAs_cons (JA_name (.loc rfl)) JAs_nil))) rfl) ?_
      have low (kv : Ln) (hkv : kv ∈ ls) : kv.1.length ≤ 5592405 := pins_len _ (hS.2 kv hkv).1
      have hnl : (nmD k).length ≤ 5592405 := pins_len _ hpn.1
      refine JS_assignC (x := "line") (di := .lst (ls.map lineA)) (ds := ls.map lineA) (p := pLow (Txt.lower (nmD k))) (g := fun d => d) (ρ' := [("name", .str (nmD k))]) (J_name hown) Itr_lst (by rw [List.length_map]; have := hS.1; omega) (cap_cons rfl ⟨.inl rfl, .inl rfl, rfl, rfl⟩ cap_nil) ?_ (.loc rfl) ?_
      · intro d hd c' X'
        obtain ⟨kv, hkv, rfl⟩ := List.mem_map.mp hd
        exact ⟨JT_one (JB_eqS (J_lower (J_itemT (J_name rfl) J_int (by decide) (by decide) rfl) (low kv hkv)) (J_lower (J_name rfl) hnl)), fun _ => J_name rfl⟩
      rw [lines_eq]
      refine JS_assignC (x := "line") (di := .lst (ls.map lineA)) (ds := ls.map lineA) (p := pNot (Txt.lower (nmD k))) (g := fun d => d) (ρ' := [("name", .str (nmD k))]) (J_name hown) Itr_lst (by rw [List.length_map]; have := hS.1; omega) (cap_cons rfl ⟨.inl rfl, .inl rfl, rfl, rfl⟩ cap_nil) ?_ (.loc rfl) ?_
      · intro d hd c' X'
        obtain ⟨kv, hkv, rfl⟩ := List.mem_map.mp hd
        refine ⟨JT_one (JB_cmp (J_lower (J_itemT (J_name rfl) J_int (by decide) (by decide) rfl) (low kv hkv)) (J_lower (J_name rfl) hnl) ?_ rfl), fun _ => J_name rfl⟩
        intro s x y Q E P r₁ r₂ hQ
        cases r₁; cases r₂
        exact ne_str (hQ _ _ (keeps_refl s) (.bool _))
      rw [others_eq]
      have z1 := hS.1
      have z2 := others_len ls (Txt.lower (nmD k))
      have z3 := lines_len ls (Txt.lower (nmD k))
      refine JS_ifC (Mid := DStep (stepD ls k) t dx l) (JB_eqI (J_name rfl) J_int) (fun q0 => ?_) (fun q0 => ?_) (fun I' ρ' h => JS_nil h) (fun _ _ h => h.elim)
      · rw [step0 q0]
        refine JS_exprE (JE_methT (fun h T => T) htab off (JL_cons (J_name rfl) (JL_cons (J_name rfl) JL_nil)) (calls_add (fun h T => T) mem3 hS hpn.1 hvl) (fm_add _) (fn_add _) (kp_add _)) noRef_none ?_
        refine JS_assign (d := .lst ((ls ++ [(nmD k, vlD k)]).map lineA)) (J_cast (by rw [List.map_append]; rfl) (J_cat (J_name hown) (J_list (JL_cons (J_tuple (JL_cons (J_name rfl) (JL_cons (J_name rfl) JL_nil))) JL_nil)) ?_)) (.cell rfl rfl) (JS_nil ⟨rfl, htab, rfl, hright⟩)
        rw [List.length_map]; show _ + 1 ≤ 1000; omega
      refine JS_ifC (Mid := DStep (stepD ls k) t dx l) (JB_eqI (J_name rfl) J_int) (fun q1 => ?_) (fun q1 => ?_) (fun I' ρ' h => JS_nil h) (fun _ _ h => h)
      · rw [step1 q0 q1]
        refine JS_setT (fun h T => T) htab off (J_name rfl) (J_name rfl) (calls_set (fun h T => T) mem3 hS hpn.1 hpn.2 hvl) ?_
        refine JS_assign (d := .lst ((othersOf ls (Txt.lower (nmD k)) ++ [(nmD k, vlD k)]).map lineA)) (J_cast (by rw [List.map_append]; rfl) (J_cat (J_name rfl) (J_list (JL_cons (J_tuple (JL_cons (J_name rfl) (JL_cons (J_name rfl) JL_nil))) JL_nil)) ?_)) (.cell rfl rfl) (JS_nil ⟨rfl, htab, rfl, hright⟩)
        rw [List.length_map]; show _ + 1 ≤ 1000; omega
      refine JS_ifC (Mid := DStep (stepD ls k) t dx l) (JB_eqI (J_name rfl) J_int) (fun q2 => ?_) (fun q2 => ?_) (fun I' ρ' h => JS_nil h) (fun _ _ h => h)
      · rw [step2 q0 q1 q2]
        obtain ⟨kv, hkv, hkv2⟩ := first_kv ls (nmD k) (vlD k)
        refine JS_assignE (d := .bool true) (JE_cast (by rw [hkv2, beq_self_eq_true]; rfl) (JE_and (b := true) (JE_eqS (b := kv.2) (JE_methT (fun h T => T) htab off (JL_cons (J_name rfl) (JL_cons (J_name rfl) JL_nil)) (calls_dflt (fun h T => T) mem3 hS hpn.1 hpn.2 hvl) (fm_dflt _) (fn_dflt _) (kp_dflt _)) (J_itemT (J_item (J_cat (J_name rfl) (J_list (JL_cons (J_tuple (JL_cons (J_name rfl) (JL_cons (J_name rfl) JL_nil))) JL_nil)) ?_) J_int (by decide) (by decide) hkv) J_int (by decide) (by decide) rfl)) (J_name hright))) (.loc rfl) ?_
        · rw [List.length_map]; show _ + 1 ≤ 1000; omega
        · have hlin : Lns (6 + i) (linesOf ls (Txt.lower (nmD k))) := ⟨Nat.le_trans z3 hL.1, fun kv hm => hL.2 kv (List.mem_filter.mp hm).1⟩
          refine JS_assign (d := .lst ((dfltOf ls (nmD k) (vlD k)).map lineA)) (J_ifexp (b := !(linesOf ls (Txt.lower (nmD k))).isEmpty) (JB_cast ?_ (JB_cmp (J_name rfl) (J_list JL_nil) (cmp_ne (lnsA_flat _) rfl (lnsA_shaped hlin) (by decide +kernel)) rfl)) (fun q => ?_) (fun q => ?_)) (.cell rfl rfl) (JS_nil ⟨rfl, htab, rfl, rfl⟩)
          · rw [lnsA_py]
            cases linesOf ls (Txt.lower (nmD k)) <;> rfl
          · refine J_cast ?_ (J_name hown)
            unfold dfltOf
            cases q' : linesOf ls (Txt.lower (nmD k)) with
            | nil => rw [q'] at q; cases q
            | cons _ _ => rfl
          · refine J_cast ?_ (J_cat (J_name hown) (J_list (JL_cons (J_tuple (JL_cons (J_name rfl) (JL_cons (J_name rfl) JL_nil))) JL_nil)) ?_)
            · unfold dfltOf
              cases q' : linesOf ls (Txt.lower (nmD k)) with
              | nil => rw [List.map_append]; rfl
              | cons _ _ => rw [q'] at q; cases q
            · rw [List.length_map]; show _ + 1 ≤ 1000; omega
      · rw [step3 q0 q1 q2]
        refine JS_delT (fun h T => T) htab off (J_name rfl) (calls_del (fun h T => T) mem3 hS hnl hpn.2) ?_
        exact JS_assign (d := .lst ((othersOf ls (Txt.lower (nmD k))).map lineA)) (J_name rfl) (.cell rfl rfl) (JS_nil ⟨rfl, htab, rfl, hright⟩)
    · rintro I' ρ₁ ⟨rfl, htab, hown, hright⟩
      have e8 : ((sc.take 8).take ((sc.take 8).map AV.int).length).foldl stepD own0 = deedsF sc := by rw [List.length_map, List.take_length]; rfl
      have hL : Lns 14 (deedsF sc) := by
        have := lns_at sc 8
        exact this
      rw [e8] at hown ⊢
      clear e8
      generalize deedsF sc = ls at hown hL ⊢
      have hS := hL.short (by decide)
      refine JS_assignCC (I2 := fun _ => Tab _ t dx l (ls.map lineA)) (fun _ _ h _ => h) (fun _ => Tab.st) (x := "small") (di := .str "rst") (ds := signs "rst") (p := fun _ => true) (g := gcl ls) (ρ' := [("own", .lst (ls.map lineA))]) J_str (Itr_str (by decide +kernel)) (by decide +kernel) ?_ ?_ (.loc rfl) ?_
      · exact capC_one (by decide) hown fun c2 => ⟨.inl rfl, .inl rfl, rfl, rfl⟩
      · intro d hd c' c2 X'
        obtain ⟨c, hc, rfl⟩ := List.mem_map.mp hd
        refine ⟨JT_nil, fun _ => ?_⟩
        refine J_cast (by rw [get_all_eq]; rfl) (J_comp (x := "line") (p := pLow ⟨#[c]⟩) (g := sndD) (ρ' := [("small", .str ⟨#[c]⟩)]) (J_name (d := .lst (ls.map lineA)) rfl) Itr_lst (by rw [List.length_map]; have := hS.1; omega) (cap_cons rfl ⟨.inl rfl, .inl rfl, rfl, rfl⟩ cap_nil) ?_)
        intro d hd c'' X''
        obtain ⟨kv, hkv, rfl⟩ := List.mem_map.mp hd
        exact ⟨JT_one (JB_eqS (J_lower (J_itemT (J_name rfl) J_int (by decide) (by decide) rfl) (pins_len _ (hS.2 kv hkv).1)) (J_name rfl)), fun _ => J_itemT (J_name rfl) J_int (by decide) (by decide) rfl⟩
      · refine JS_assignC2 (I2 := fun X' => Tab X' t dx l (ls.map lineA)) (fun h X' T m => T.re m) (fun _ => Tab.st) (x := "great") (di := .str "RST") (ds := signs "RST") (p := fun _ => true) (g := gall ls) (ρ' := [("table", .at t)]) J_str (Itr_str (by decide +kernel)) (by decide +kernel) (cap_cons htab ⟨.inl rfl, .inl rfl, rfl, rfl⟩ cap_nil) ?_ (.loc rfl) ?_
        · intro d hd c' X'
          have hd' : d = .str "R" ∨ d = .str "S" ∨ d = .str "T" := by
            have e1 : signs "RST" = [.str "R", .str "S", .str "T"] := by kernel_rfl
            rw [e1] at hd
            simpa using hd
          refine ⟨JT_nil, fun _ => ?_⟩
          rcases hd' with rfl | rfl | rfl <;> exact J_methT (fun h T => T) rfl (JL_cons (J_name rfl) JL_nil) (calls_get_all (fun h T => T) hS (by decide +kernel) (by decide +kernel)) (fm_all _) (fn_all _) (kp_all _)
        · rw [told_eq]
          have e9 : ((signs "rst").filter fun _ => true).map (gcl ls) = (cls ls).map clA := clsD_eq hL
          rw [e9, clsD_eq hL]
          have sh1 := lnsA_shaped hL
          have sh2 := clsA_shaped fun c hc => (cls_lt hL c hc).1
          refine JS_ret (J_tuple (JL_cons (J_name rfl) (JL_cons (J_and3 (J_name hright) (J_cast ?_ (J_cmp (J_methT0 (fun h T => T) htab (calls_items (fun h T => T) (by rw [List.length_map]; have := hS.1; omega)) (fm_items _) (fn_items _) (kp_items _)) (J_name hown) (cmp_eq (lnsA_flat _) (lnsA_flat _) sh1 sh1) rfl)) (J_cast ?_ (J_cmp (J_name rfl) (J_name rfl) (cmp_eq (clsA_flat _) (clsA_flat _) sh2 sh2) rfl))) JL_nil))) rfl
          · rw [PySem.SeqAt.eqv_refl _ (shaped_lay sh1)]
          · rw [PySem.SeqAt.eqv_refl _ (shaped_lay sh2)]
end
end Mine
end -- D1

section -- K1
open PySem PySem.W PyProof.Rows PySem.Calls
set_option maxRecDepth 100000
set_option maxHeartbeats 400000
namespace Mine
/-- a dict of texts at p -/
noncomputable def PD (w : World) (D : List (PyData × PyData)) (p : Addr) (h : Heap) : Prop := ∃ o, h.get? p = some o ∧ TabObj (strKind PR w) PyData.str D o
theorem PD.st {w : World} {D : List (PyData × PyData)} {p : Addr} : ∀ h h', Kp h h' → PD w D p h → PD w D p h' := fun _ _ k ⟨o, e, t⟩ => ⟨o, k _ _ e, t⟩
theorem tab_noIter {w : World} {D : List (PyData × PyData)} {o : Obj} (t : TabObj (strKind PR w) PyData.str D o) : isIter o = false := by
  obtain ⟨kvs, hd, _⟩ := t
  have : o.cls = .type "dict" := by
    obtain ⟨es, ep, hx, _⟩ := hd
    exact hx.1
  unfold isIter
  rw [this]
  decide
theorem PD.sf {w : World} {D : List (PyData × PyData)} {p : Addr} {F : List Addr} (hp : p ∉ F) : ∀ h h', KpIt F h h' → PD w D p h → PD w D p h' := fun _ _ k ⟨o, e, t⟩ => ⟨o, k _ _ hp (tab_noIter t) e, t⟩
section
variable {C : Cx} {n : Nat} {I : Heap → Prop} {ρ : List (Str × AV)}
/-- x = {..} -/
theorem JS_dict {x : Str} {xp dp pos : Pos} {keys : List (Option Expr)} {values : List Expr} {D : List (PyData × PyData)} {rest : List Stmt} {Post : Out → Prop} (hx : Own C x) (hD : litPairs keys values = some D) (hs : strKeyed D = true) (hn : (strKeysOf D).Nodup) (hall : keys.all (·.isSome) = true) (hl : keys.length = values.length) (h0 : keys ≠ []) (hlen : keys.length ≤ 15)
    (k : ∀ p, p ∉ C.X → p ∉ frA C.env → (p == sysModules) = false → JS C n (PD C.w D p) ((x, .at p) :: ρ) rest Post)
    (hsw : swapsWith (.Dict keys values dp) (some (.Name x xp)) pos.line C.env = pure false := by rfl) : JS C n I ρ (.Assign [.Name x xp] (.Dict keys values dp) pos :: rest) Post := by
  refine ⟨fun s P Q E hN hR => ?_⟩
  refine wpAny_execs_cons (wpAny_Assign_Name (Dict_lits_str hD hs hn hall hl h0 hlen fun p o h₁ tk hp e t kp => ?_) hsw)
  have miss : s.heap.get? p = none := by
    cases q : s.heap.get? p with
    | none => rfl
    | some o => exact absurd (Heap.lt_size q) (Nat.not_lt.mpr hp)
  have hpX : p ∉ C.X := P.toPre.fresh miss
  have hpF : p ∉ frA C.env := fun m => hpX (P.ok.sub _ (P.fw.inW _ m))
  have hsm : (p == sysModules) = false := beq_eq_false_iff_ne.mpr (Nat.ne_of_gt (Nat.lt_of_lt_of_le (big_size P.toPre.K) hp))
  have kp : Kp s.heap h₁ := kp
  have P₁ : SP C n (PD C.w D p) ρ h₁ := (P.kp kp).with ⟨o, e, t⟩ PD.st (PD.sf hpF)
  refine store P₁ hx (.at p) fun s₂ k₂ P₂ => ?_
  have cc : Ch C.W s s₂ := (Ch.of (keeps_h s tk kp)).trans (k₂.mono P.fw.inW)
  exact (k p hpX hpF hsm).run s₂ P₂ _ _ (fun I' ρ' s' p c => hN I' ρ' s' p (cc.trans c)) fun I' ρ' d v s' p c => hR I' ρ' d v s' p (cc.trans c)
end
end Mine
end -- K1

section -- K2
open PySem PySem.W PyProof.Rows PySem.Calls PyProof.V
set_option maxRecDepth 100000
set_option maxHeartbeats 400000
namespace Mine
noncomputable def keyA : PyData → AV
  | .str x => .str x
  | _ => .none
theorem flat_key : ∀ {kvs : List (Str × Value)} {D : List (PyData × PyData)}, FlatPairs PyData.str kvs D → ∀ {i : Nat} {k : Str} {x : Value}, kvs[i]? = some (k, x) → (D.map fun d => keyA d.1)[i]? = some (.str k)
  | _, _, .nil, _, _, _, e => by simp at e
  | _, _, .cons _ r, 0, _, _, e => by simp at e; obtain ⟨rfl, rfl⟩ := e; rfl
  | _, _, .cons _ r, i + 1, _, _, e => by simpa using flat_key r (i := i) (by simpa using e)
theorem flat_len : ∀ {kvs : List (Str × Value)} {D : List (PyData × PyData)}, FlatPairs PyData.str kvs D → kvs.length = D.length
  | _, _, .nil => rfl
  | _, _, .cons _ r => by rw [List.length_cons, List.length_cons, flat_len r]
section
variable {C : Cx} {n : Nat} {I : Heap → Prop} {ρ : List (Str × AV)}
theorem Itr_dict {D : List (PyData × PyData)} {p : Addr} (hI : ∀ h, I h → PD C.w D p h) (hp : p ∉ C.W) (hsm : (p == sysModules) = false) : Itr C n I ρ (.at p) (D.map fun d => keyA d.1) := by
  refine ⟨fun s v Q E P r hQ => ?_⟩
  cases r
  obtain ⟨o, e, kvs, ⟨es, ep, hx, hdat, hk, hpr, hn⟩, hf⟩ := hI _ P.inv
  have hm : s.heap.DictAt (strKind PR C.w) p kvs ep := ⟨o, es, e, hx, hdat, hk, hpr, hn⟩
  have hne : p ≠ s.heap.objs.size := Nat.ne_of_lt (Heap.lt_size e)
  refine wpAny_pyIter_dict hsm hm ?_
  have W := Walks.dictKeys (prog := PR) (w := C.w) (knd := strKind PR C.w) P.ok.hh s.heap.objs.size p hne kvs ep
  have hsz : kvs.length = (D.map fun d => keyA d.1).length := by rw [List.length_map, flat_len hf]
  have hst : Heap.IsKeyIter (s.heap.push { cls := .type "dict_keyiterator", data := .fields #[.ref p, .int 0 0, .int kvs.length 0, .int ep 0] }) s.heap.objs.size p 0 kvs.length ep := ⟨_, Heap.get?_push_size _ rfl, rfl, rfl⟩
  refine hQ _ _ [s.heap.objs.size, p] _ (fun i h => h.IsKeyIter s.heap.objs.size p i kvs.length ep ∧ Heap.DictAt (strKind PR C.w) h p kvs ep) (none_size _) (keeps_h' s (Kp.push _)) (by rw [← hsz]; exact W) ⟨hst, hm.at' fun o e => Heap.get?_push_of_some _ e⟩ ?_ ?_ ?_
  · intro b hb
    rcases List.mem_cons.mp hb with q | hb
    · exact .inl q
    · rw [List.mem_singleton.mp hb]; exact .inr ⟨hp, _, e⟩
  · rintro i u ⟨k, x, hx, hk⟩
    obtain ⟨t, rfl⟩ := Value.isStrOf_shape hk
    exact ⟨_, flat_key hf hx, .str _ _⟩
  · rintro i h ⟨⟨o, e, c, _⟩, _⟩
    exact ⟨o, _, e, c, by decide, by decide⟩
end
end Mine
end -- K2

section -- K3
open PySem PySem.W PyProof.Rows PySem.Calls PyProof.V
set_option maxRecDepth 100000
set_option maxHeartbeats 400000
namespace Mine
/-- what a dict of texts gives -/
noncomputable def lookD (D : List (PyData × PyData)) (x : Str) : Option PyData := match D with
  | [] => none
  | (.str y, d) :: r => if y = x then some d else lookD r x
  | _ :: r => lookD r x
theorem flat_at {x : Str} {k : Int} : ∀ {kvs : List (Str × Value)} {D : List (PyData × PyData)}, FlatPairs PyData.str kvs D → lookD D x = some (.int k) → ∃ t, valueAt kvs x = some (.int k t)
  | _, _, .nil, e => by cases e
  | _, _, .cons (k := y) fv r, e => by
    unfold lookD at e
    by_cases q : y = x
    · rw [if_pos q] at e
      cases e
      obtain ⟨t, rfl⟩ := fv.int_inv
      exact ⟨t, by simp [valueAt, q]⟩
    · rw [if_neg q] at e
      obtain ⟨t, ht⟩ := flat_at r e
      exact ⟨t, by simpa [valueAt, q] using ht⟩
section
variable {C : Cx} {n : Nat} {I : Heap → Prop} {ρ : List (Str × AV)}
theorem J_itemD {v i : Expr} {pos : Pos} {D : List (PyData × PyData)} {p : Addr} {x : Str} {k : Int} (hI : ∀ h, I h → PD C.w D p h) (hv : J C n I ρ v (.at p)) (hi : J C n I ρ i (.str x)) (hk : lookD D x = some (.int k))
    (hs : ∀ a t, subscripted i false (.ref a) (.str x t) = operate [.ref a, .str x t] (getItem (.ref a) (.str x t)) := by intro _ _; rfl) : J C n I ρ (.Subscript v i pos) (.int k) := by
  refine ⟨fun s P Q E hQ => ?_⟩
  refine Subscript_ (hv.run s P _ _ fun y s₁ k₁ r₁ => hi.run s₁ (P.keeps k₁) _ _ fun z s₂ k₂ r₂ => ?_)
  cases r₁
  cases r₂
  obtain ⟨o, e, kvs, hd, hf⟩ := hI _ ((P.keeps k₁).keeps k₂).inv
  have hD : s₂.heap.DictOf (strKind PR C.w) p kvs := Heap.dictOf_iff.mpr ⟨o, e, hd⟩
  obtain ⟨t, ht⟩ := flat_at hf hk
  exact tail_any hD.typeIs slot_dict_getitem.lookup (wpAny_getItem_of (knd := strKind PR C.w) (k := x) (by simp [PySem.strKind, Value.isStrOf]) hD.mapOf ht (hQ _ _ (keeps_trans (keeps_trans k₁ k₂) (keeps_tk _ _)) (.int _ _))) (hs _ _)
end
end Mine
end -- K3

section -- K4
open PySem PySem.W PyProof.Rows PySem.Calls PyProof.V
set_option maxRecDepth 100000
set_option maxHeartbeats 400000
namespace Mine
/-- a table and a dict of texts -/
structure TD (w : World) (D : List (PyData × PyData)) (p : Addr) (X : List Addr) (t dx l : Addr) (ds : List AV) (h : Heap) : Prop where
  tab : Tab X t dx l ds h
  dict : PD w D p h
theorem TD.st {w : World} {D : List (PyData × PyData)} {p : Addr} {X : List Addr} {t dx l : Addr} {ds : List AV} : ∀ h h', Kp h h' → TD w D p X t dx l ds h → TD w D p X t dx l ds h' := fun _ _ k T => ⟨Tab.st _ _ k T.tab, PD.st _ _ k T.dict⟩
theorem TD.sf {w : World} {D : List (PyData × PyData)} {p : Addr} {X F : List Addr} {t dx l : Addr} {ds : List AV} (s : ∀ b ∈ F, b ∈ X) (ht : t ∉ F) (hd : dx ∉ F) (hl : l ∉ F) (hp : p ∉ F) : ∀ h h', KpIt F h h' → TD w D p X t dx l ds h → TD w D p X t dx l ds h' := fun _ _ k T => ⟨Tab.sf s ht hd hl _ _ k T.tab, PD.sf hp _ _ k T.dict⟩
section
variable {C : Cx} {n : Nat} {I : Heap → Prop} {ρ : List (Str × AV)}
theorem JE_methD {D : List (PyData × PyData)} {p t dx l f : Addr} {ds ds' es : List AV} {d : AV} {o m : Str} {op ap pos : Pos} {e : Expr} {rest : List Expr} (ho : ρ.lookup o = some (.at t)) (off : Off C t dx l) (hpF : p ∉ frA C.env) (hpl : p ≠ l)
    (ha : JL C n (TD C.w D p C.X t dx l ds) ρ (e :: rest) es) (hc : CallsW C n (TD C.w D p C.X t dx l ds) ρ (.ref f) (.at t :: es) t dx l ds' d)
    (hf : findIn (HK C.w.params) (.ref 175) m = some (some (.ref f))) (hn : isFn (HK C.w.params) (.ref f) = true) (hkp : keepIn (HK C.w.params) (.ref f) = true)
    (hm : ("_headers" == m) = false := by decide) (hd' : (o == ("__debug__" : Str)) = false := by decide) (hl : (ap.endLine == pos.line) = true := by rfl) (h2 : W.isStarred e = false := by rfl) (h3 : rest.any W.isStarred = false := by rfl) (h4 : (e :: rest).length < 20 := by decide) :
    JE C n (TD C.w D p C.X t dx l ds) ρ (.Call (.Attribute (.Name o op) m ap) (e :: rest) [] pos) (TD C.w D p C.X t dx l ds') d := by
  refine ⟨fun s P Q E hQ => ?_⟩
  refine ev_meth ((J_name ho hd').run s P.toPre _ _ fun v s₁ k₁ r₁ => ?_) (base_of rfl) (form0 (args := e :: rest) (by rw [List.any_cons, h2, h3]; rfl) h4) hl
  cases r₁
  have P₁ := P.keeps k₁
  refine gm_tab P₁.toPre P₁.inv.tab hf hn hm ?_
  refine callWith_K P₁.toPre.K hkp (ha.run pos s₁ P₁.toPre _ _ fun vs s₂ k₂ r₂ => ⟨(P₁.keeps k₂).toPre.K, ?_⟩) (star_cons h2) (back_star h3)
  have P₂ := P₁.keeps k₂
  refine hc.run s₂ _ _ _ P₂.toPre (.cons (.at t) r₂) fun v s₃ k₃ T₃ r₃ => ?_
  obtain ⟨h', tk, rfl, kk⟩ := k₃
  obtain ⟨vs, q, el, _⟩ := T₃.li
  obtain ⟨od, ed, td⟩ := P₂.inv.dict
  have D₃ : PD C.w D p h' := ⟨od, kk _ _ (by simpa using hpl) ed, td⟩
  have P₃ := P₂.upd kk ⟨_, el⟩ (P.ok.sub _ off.w) off.l (I' := TD C.w D p C.X t dx l ds') ⟨T₃, D₃⟩ TD.st (TD.sf (fun b m => P.ok.sub _ (P.fw.inW _ m)) off.t off.d off.l hpF)
  exact hQ v _ ((Ch.of k₁).trans ((Ch.of k₂).trans ⟨h', tk, rfl, kk.mono fun a m => List.mem_singleton.mp m ▸ off.w⟩)) P₃ r₃
end
end Mine
end -- K4

section -- K6
open PySem PySem.W PyProof.Rows PySem.Calls PyProof.V
set_option maxRecDepth 100000
set_option maxHeartbeats 1000000
namespace Mine
section
variable {C : Cx} {n : Nat} {I : Heap → Prop} {ρ : List (Str × AV)}
/-- Headers() -/
theorem call_new1 {s : Shared} {Q : Value → Shared → Prop} {E : Value → Shared → Prop} (P : Pre C (n + 3) I ρ s.heap)
    (hQ : ∀ t dx l s', Keeps s s' → s.heap.get? t = none → s.heap.get? dx = none → l ∉ C.X → l ≠ t → l ≠ dx → s.heap.get? l = none → Tab [] t dx l [] s'.heap → Q (.ref t) s') : wpAny (model PR C.w) C.A (call (.ref 175) []) Q E s := by
  obtain ⟨h, g, d, tk, os⟩ := s
  have P : Pre C (n + 3) I ρ h := P
  have mdx : h.get? h.objs.size = none := none_size _
  have mt : h.get? (h.objs.size + 1) = none := by
    cases q : h.get? (h.objs.size + 1) with
    | none => rfl
    | some o => exact absurd (Heap.lt_size q) (Nat.not_lt.mpr (Nat.le_succ _))
  refine wpAny_call (make_core (h := h) (makes_of P.K (hd_makes _)) (looks_findIn P.K (hd_init _)) (fun self => bind_fn P.K self (hd_initfn _)) (.inl rfl) ?_)
  have kp : Kp h ((h.push emptyDict).push (instObj 175 h.objs.size)) := (Kp.push _).trans (Kp.push _)
  have edx : ((h.push emptyDict).push (instObj 175 h.objs.size)).get? h.objs.size = some (dictOf [] 0) := Heap.get?_push_of_some _ (Heap.get?_push_size _ rfl)
  have et : ((h.push emptyDict).push (instObj 175 h.objs.size)).get? (h.objs.size + 1) = some (instObj 175 h.objs.size) := by
    have := Heap.get?_push_size (h.push emptyDict) (o := instObj 175 h.objs.size) rfl
    rw [Heap.size_push] at this; exact this
  generalize hH : (h.push emptyDict).push (instObj 175 h.objs.size) = H at kp edx et ⊢
  generalize hdx : h.objs.size = dx at mdx mt edx et ⊢
  generalize htt : dx + 1 = t at mt et ⊢
  have R : RawN t dx H := ⟨et, edx⟩
  have P₁' : Pre (newU C t dx t []) (n + 2) (RawN t dx) [] H := P.grow kp mt mdx mt ⟨_, et⟩ ⟨_, edx⟩ ⟨_, et⟩ R (fun h h' k T => ⟨k _ _ T.ob, k _ _ T.di⟩)
  let X' := t :: dx :: t :: C.X
  have k0 : Kp C.H0 (hideAll h X') := fun b o e => hideAll_get X' (P.old b o e) (fun m => by
    rcases List.mem_cons.mp m with rfl | m
    · have := P.old _ _ e; rw [mt] at this; cases this
    rcases List.mem_cons.mp m with rfl | m
    · have := P.old _ _ e; rw [mdx] at this; cases this
    rcases List.mem_cons.mp m with rfl | m
    · have := P.old _ _ e; rw [mt] at this; cases this
    have := P.ok.low _ m; rw [e] at this; cases this)
  have P₁ : Pre { newU C t dx t [] with H0 := hideAll h X' } (n + 2) (RawN t dx) [] H := by
    refine ⟨⟨fun a o e => k0 _ _ (P.ok.K a o e), P.ok.T.keeps k0, P.ok.hh, P₁'.ok.depth, P₁'.ok.units, P.ok.kind, P.ok.glob, P.ok.blt, fun a m => hideAll_none X' m, P₁'.ok.sub⟩, fun b o e => kp _ _ (of_hideAll X' e), P₁'.ex, R, P₁'.st, fun _ _ e => nomatch e⟩
  refine init_none (C := { newU C t dx t [] with H0 := hideAll h X' }) (n := n) (s := ⟨H, g, d, tk, os⟩) P₁ R (.tail _ (.head _)) fun s' l c hX h0 T => ?_
  obtain ⟨h', tk', rfl, kk⟩ := c
  have kk : KpBut [dx] H h' := kk
  have ml : h.get? l = none := by
    cases q : h.get? l with
    | none => rfl
    | some o => have := hideAll_get X' q hX; rw [show (hideAll h X').get? l = none from h0] at this; cases this
  exact ⟨rfl, hQ t dx l _ ⟨h', tk', rfl, fun b o e => kk b o (fun q => by have e' : h.get? b = some o := e; rw [List.mem_singleton.mp q, mdx] at e'; cases e') (kp _ _ e)⟩ mt mdx (fun m => hX (.tail _ (.tail _ (.tail _ m)))) (fun q => hX (q ▸ .head _)) (fun q => hX (q ▸ .tail _ (.head _))) ml T⟩
/-- x = Headers() -/
theorem JS_new0 {x : Str} {xp fp cp pos : Pos} {D : List (PyData × PyData)} {p : Addr} {rest : List Stmt} {d : AV} (hx : Own C x) (hpF : p ∉ frA C.env)
    (k : ∀ t dx l, t ∉ frA C.env → dx ∉ frA C.env → l ∉ frA C.env → p ≠ t → p ≠ dx → p ≠ l → JS (newC C t dx l) (n + 3) (TD C.w D p (t :: dx :: l :: C.X) t dx l []) ((x, .at t) :: ρ) rest (Ret d))
    (hk : C.env.kindOf "Headers" = some .globalImplicit := by rfl)
    (hsw : swapsWith (.Call (.Name "Headers" fp) [] [] cp) (some (.Name x xp)) pos.line C.env = pure false := by rfl) :
    JS C (n + 3) (PD C.w D p) ρ (.Assign [.Name x xp] (.Call (.Name "Headers" fp) [] [] cp) pos :: rest) (Ret d) := by
  refine ⟨fun s P Q E hN hR => ?_⟩
  refine wpAny_execs_cons (wpAny_Assign_Name (Call_ (ev_global P.toPre hk (at_headers _) (by decide) ?_) call_name) hsw)
  refine callWith_K0 P.toPre.K (kp_headers _) ?_
  refine call_new1 (n := n) P.toPre fun t dx l s₂ k₂ mt md hlX hlt hld ml T => ?_
  have hF : ∀ {a}, s.heap.get? a = none → a ∉ frA C.env := fun q m => by obtain ⟨o, e⟩ := P.ex _ (P.ok.sub _ (P.fw.inW _ m)); rw [q] at e; cases e
  have ml0 : C.H0.get? l = none := by
    cases q : C.H0.get? l with
    | none => rfl
    | some o => have := P.old l o q; rw [ml] at this; cases this
  obtain ⟨_, _, _, edx⟩ := T.di
  obtain ⟨vs, q, el₂, rl⟩ := T.li
  have kp₂ := keeps_kp k₂
  obtain ⟨od, ep, td⟩ := P.inv
  have ep₂ := kp₂ _ _ ep
  have ne : ∀ {a}, s.heap.get? a = none → p ≠ a := fun q e => by rw [e, q] at ep; cases ep
  have P₂ : SP (newC C t dx l) (n + 3) (TD C.w D p (t :: dx :: l :: C.X) t dx l []) ρ s₂.heap := P.grow kp₂ mt md ml0 hlX ⟨_, T.ob⟩ ⟨_, edx⟩ ⟨_, el₂⟩ (fun v d r _ => (r.re fun a ma => by
        rcases List.mem_cons.mp ma with rfl | ma
        · exact .inr mt
        rcases List.mem_cons.mp ma with rfl | ma
        · exact .inr md
        rcases List.mem_cons.mp ma with rfl | ma
        · exact .inr ml
        exact .inl ma).mono kp₂.but) ⟨T.any, od, ep₂, td⟩ TD.st (TD.sf (fun b m => .tail _ (.tail _ (.tail _ (P.ok.sub _ (P.fw.inW _ m))))) (hF mt) (hF md) (hF ml) hpF)
  refine store (C := newC C t dx l) P₂ hx (.at t) fun s₄ c₄ P₄ => ?_
  have cc : Ch C.W s s₄ := (Ch.of k₂).trans (c₄.mono P.fw.inW)
  have back : ∀ s', Ch (t :: dx :: l :: C.W) s₄ s' → Ch C.W s s' := by
    rintro s' ⟨h', tk', rfl, k⟩
    obtain ⟨h₄, tk₄, rfl, kk⟩ := cc
    refine ⟨h', tk', rfl, fun b o nb e => k b o (fun mm => ?_) (kk b o nb e)⟩
    rcases List.mem_cons.mp mm with rfl | mm
    · rw [mt] at e; cases e
    rcases List.mem_cons.mp mm with rfl | mm
    · rw [md] at e; cases e
    rcases List.mem_cons.mp mm with rfl | mm
    · rw [ml] at e; cases e
    exact nb mm
  refine (k t dx l (hF mt) (hF md) (hF ml) (ne mt) (ne md) (ne ml)).run s₄ P₄ _ _ (fun I' ρ' s' p => p.elim) fun I' ρ' e v s' p c P' r => ?_
  exact hR (fun _ => True) [] e v s' p (back s' c) ⟨⟨P.ok, P'.old, fun b m => P'.ex b (.tail _ (.tail _ (.tail _ m))), trivial, fun _ _ _ h => h, fun _ _ h => nomatch h⟩, ⟨P'.fw.ns, P.fw.inW, P'.fw.cell, P.fw.inj⟩, fun _ _ _ h => h⟩ (r.re fun a m => .inl (.tail _ (.tail _ (.tail _ m))))
end
end Mine
end -- K6

section -- K7
open PySem PySem.W PyProof.Rows PySem.Calls PyProof.V
set_option maxRecDepth 100000
set_option maxHeartbeats 1000000
namespace Mine
/-- tokens are never given back -/
theorem runs_toks {M : Model} {Γ : Ctx} {p : Pos} {t : Sem Fin} {fs : List Frame} {s : Shared} {e : End} {s' : Shared} (h : Runs M Γ p t fs s e s') : s.toks ≤ s'.toks := by
  induction h with
  | done | raise | yield => exact Nat.le_refl _
  | again _ _ ih | rule _ ih | «at» _ ih | load _ _ ih | update _ _ ih | loadIfAlive _ ih | point _ ih | alloc _ ih | ask _ ih | choose _ _ ih | os _ ih | handled _ ih | genState _ _ ih | stack _ ih | thread _ ih | newGen _ ih | callSusp _ ih | resumeJustStarted _ _ _ ih | resumeThrowFresh _ _ ih | resumeRunning _ _ ih | resumeFinished _ _ ih | segSuspOut _ _ ih => exact ih
  | fresh _ ih => exact Nat.le_trans (Nat.le_succ _) ih
  | call _ _ a b => exact Nat.le_trans a b
  | resumeFresh _ _ _ _ a b => exact Nat.le_trans a b
  | resumeSuspended _ _ _ _ a b => exact Nat.le_trans a b
  | segRet _ _ a b => exact Nat.le_trans a b
  | segGen _ _ a b => exact Nat.le_trans a b
  | segSuspGen _ _ _ _ a b => exact Nat.le_trans a b
theorem wakes_toks {M : Model} {Γ : Ctx} {p : Pos} {g : Nat} {r : Resume} {s : Shared} {res : GenResult} {s' : Shared} (h : Wakes M Γ p g r s res s') : s.toks ≤ s'.toks := by
  unfold Wakes at h
  split at h
  · exact h.elim
  · split at h
    · obtain ⟨e₁, s₁, h₁, _, _, rfl⟩ := h; have := runs_toks h₁; exact this
    · obtain ⟨_, rfl⟩ := h; exact Nat.le_refl _
    · obtain ⟨_, rfl⟩ := h; exact Nat.le_refl _
  · obtain ⟨e₁, s₁, h₁, _, _, rfl⟩ := h; have := runs_toks h₁; exact this
  · obtain ⟨_, rfl⟩ := h; exact Nat.le_refl _
  · obtain ⟨_, rfl⟩ := h; exact Nat.le_refl _
theorem wp_grow {α : Type} {M : Model} {Γ : Ctx} {K : Nat} {E : Value → Pos → Shared → Prop} : ∀ (t : Sem α) (Q : α → Pos → Shared → Prop) (p : Pos) (s : Shared), K ≤ s.toks → Sem.wp M Γ t (fun a p' s' => K ≤ s'.toks → Q a p' s') E p s → Sem.wp M Γ t Q E p s := by
  intro t
  induction t with
  | pure x => exact fun Q p s hK h => h hK
  | raise v => exact fun Q p s hK h => h
  | unsupported | finish | yield | fork | await | register => exact fun Q p s hK h => h
  | rule _ k ih | «at» _ k ih | alloc _ k ih | loadIfAlive _ k ih | point _ k ih | ask k ih | os _ _ k ih | handled _ k ih | newGen _ k ih | stack k ih | thread k ih => exact fun Q p s hK h => ih _ Q _ _ hK h
  | fresh k ih => exact fun Q p s hK h => ih _ Q _ _ (Nat.le_succ_of_le hK) h
  | load a _ k ih | genState a k ih => exact fun Q p s hK ⟨o, ho, h⟩ => ⟨o, ho, ih _ _ _ _ hK h⟩
  | update a _ f k ih | choose _ _ k ih => exact fun Q p s hK ⟨ha, h⟩ => ⟨ha, ih _ _ _ _ hK h⟩
  | call c h g l k ih => exact fun Q p s hK ⟨r, s', hr, h⟩ => ⟨r, s', hr, ih _ _ _ _ (Nat.le_trans hK (runs_toks hr)) h⟩
  | resume g r l k ih => exact fun Q p s hK ⟨res, s', hw, h⟩ => ⟨res, s', hw, ih _ _ _ _ (Nat.le_trans hK (wakes_toks hw)) h⟩
theorem wpAny_grow {α : Type} {M : Model} {A : Around} {K : Nat} {t : Sem α} {Q : α → Shared → Prop} {E : Value → Shared → Prop} {s : Shared} (hK : K ≤ s.toks) (h : wpAny M A t (fun a s' => K ≤ s'.toks → Q a s') E s) : wpAny M A t Q E s :=
  fun Γ p hΓ => wp_grow t _ p s hK (h Γ p hΓ)
end Mine
end -- K7

section -- K8
open PySem PySem.W PyProof.Rows PySem.Calls PyProof.V
set_option maxRecDepth 100000
set_option maxHeartbeats 1000000
namespace Mine
/-- statements, once K tokens are given -/
structure JSk (K : Nat) (C : Cx) (n : Nat) (I : Heap → Prop) (ρ : List (Str × AV)) (sts : List Stmt) (Post : Out → Prop) : Prop where
  run : ∀ s, SP C n I ρ s.heap → K ≤ s.toks → ∀ Q E, (∀ I' ρ' s', Post (.next I' ρ') → Ch C.W s s' → SP C n I' ρ' s'.heap → Q .next s') →
    (∀ I' ρ' d v s', Post (.ret I' d) → Ch C.W s s' → SP C n I' ρ' s'.heap → Rd C.X s'.heap v d → Q (.ret v) s') → wpAny (model PR C.w) C.A (execs sts C.env) Q E s
structure Jk (K : Nat) (C : Cx) (n : Nat) (I : Heap → Prop) (ρ : List (Str × AV)) (e : Expr) (d : AV) : Prop where
  run : ∀ s, Pre C n I ρ s.heap → K ≤ s.toks → ∀ Q E, (∀ v s', Keeps s s' → Rd C.X s'.heap v d → Q v s') → wpAny (model PR C.w) C.A (eval e C.env) Q E s
structure JEk (K : Nat) (C : Cx) (n : Nat) (I : Heap → Prop) (ρ : List (Str × AV)) (e : Expr) (I' : Heap → Prop) (d : AV) : Prop where
  run : ∀ s, SP C n I ρ s.heap → K ≤ s.toks → ∀ Q E, (∀ v s', Ch C.W s s' → SP C n I' ρ s'.heap → Rd C.X s'.heap v d → Q v s') → wpAny (model PR C.w) C.A (eval e C.env) Q E s
section
variable {C : Cx} {n : Nat} {I : Heap → Prop} {ρ : List (Str × AV)}
theorem JSk.of {K : Nat} {sts : List Stmt} {Post : Out → Prop} (h : JS C n I ρ sts Post) : JSk K C n I ρ sts Post := ⟨fun s P _ => h.run s P⟩
theorem J_untok {e : Expr} {x : Str} {u : Tok} (h : J C n I ρ e (.tok x u)) : J C n I ρ e (.str x) := ⟨fun s P Q E hQ => h.run s P Q E fun v s' k r => by cases r; exact hQ _ s' k (.str _ _)⟩
theorem JSk_ifC {K : Nat} {e : Expr} {body orelse rest : List Stmt} {pos : Pos} {b : Bool} {Post : Out → Prop} {Mid : Cx → Out → Prop} (h : JB C n I ρ e b) (h1 : b = true → JSk K C n I ρ body (Mid C)) (h2 : b = false → JSk K C n I ρ orelse (Mid C))
    (hn : ∀ I' ρ', Mid C (.next I' ρ') → JSk K C n I' ρ' rest Post) (hr : ∀ I' d, Mid C (.ret I' d) → Post (.ret I' d)) : JSk K C n I ρ (.If e body orelse pos :: rest) Post := by
  refine ⟨fun s P hK Q E hN hR => ?_⟩
  have fin : ∀ s₁, Keeps s s₁ → ∀ s', K ≤ s'.toks → ∀ I' ρ', Mid C (.next I' ρ') → Ch C.W s₁ s' → SP C n I' ρ' s'.heap → wpAny (model PR C.w) C.A (execs rest C.env) Q E s' := fun s₁ k₁ s' hK' I' ρ' hm c P' =>
    (hn I' ρ' hm).run s' P' hK' _ _ (fun I'' ρ'' s'' hp k' P'' => hN _ _ _ hp (((Ch.of k₁).trans c).trans k') P'') fun I'' ρ'' d v s'' hp k' P'' r => hR _ _ _ _ _ hp (((Ch.of k₁).trans c).trans k') P'' r
  refine wpAny_execs_cons (wpAny_If (wpAny_grow hK (h.run s P.toPre _ _ fun s₁ k₁ hK₁ => ?_)))
  cases b with
  | true => rw [if_pos rfl]; exact wpAny_grow hK₁ ((h1 rfl).run s₁ (P.keeps k₁) hK₁ _ _ (fun I' ρ' s' p c P' hK' => fin s₁ k₁ s' hK' I' ρ' p c P') fun I' ρ' d v s' p c P' r _ => hR I' ρ' d v s' (hr _ _ p) ((Ch.of k₁).trans c) P' r)
  | false => rw [if_neg Bool.false_ne_true]; exact wpAny_grow hK₁ ((h2 rfl).run s₁ (P.keeps k₁) hK₁ _ _ (fun I' ρ' s' p c P' hK' => fin s₁ k₁ s' hK' I' ρ' p c P') fun I' ρ' d v s' p c P' r _ => hR I' ρ' d v s' (hr _ _ p) ((Ch.of k₁).trans c) P' r)
theorem JSk_exprE {K : Nat} {e : Expr} {pos : Pos} {rest : List Stmt} {I' : Heap → Prop} {d : AV} {Post : Out → Prop} (h : JEk K C n I ρ e I' d) (hd : NoRef d) (k : JSk K C n I' ρ rest Post) (hi : interactive C.env = false := by rfl) (hs : swapsWith e none pos.line C.env = pure false := by rfl) : JSk K C n I ρ (.Expr e pos :: rest) Post := by
  refine ⟨fun s P hK Q E hN hR => ?_⟩
  refine wpAny_execs_cons (wpAny_Expr (wpAny_grow hK (h.run s P hK _ _ fun v s₁ c₁ P₁ r₁ hK₁ => ?_)) hi hs)
  have fin := k.run s₁ P₁ hK₁ Q E (fun I' ρ' s' p c => hN I' ρ' s' p (c₁.trans c)) fun I' ρ' d v s' p c => hR I' ρ' d v s' p (c₁.trans c)
  cases v <;> first | exact fin | exact (hd _ _ _ r₁).elim
theorem JSk_for {K : Nat} {target iter : Expr} {body rest : List Stmt} {pos : Pos} {di : AV} {ds : List AV} {Post : Out → Prop} (hi : J C n I ρ iter di) (it : Itr C n I ρ di ds)
    (Inv : Nat → (Heap → Prop) → List (Str × AV) → Prop) (h0 : Inv 0 I ρ)
    (turn : ∀ i d I' ρ', ds[i]? = some d → Inv i I' ρ' → ∃ ρ₁, JA C n I' ρ' target d ρ₁ ∧ JSk K C n I' ρ₁ body (fun o => match o with | .next I'' ρ'' => Inv (i + 1) I'' ρ'' | .ret I'' e => Post (.ret I'' e)))
    (after : ∀ I' ρ', Inv ds.length I' ρ' → JSk K C n I' ρ' rest Post)
    (hs : ∀ v, foldedSetIterable iter C.env v = pure v := by intro _; rfl) : JSk K C n I ρ (.For target iter body [] pos :: rest) Post := by
  refine ⟨fun s P hK0 Q E hN hR => ?_⟩
  refine wpAny_execs_cons (wpAny_For (wpAny_grow hK0 (hi.run s P.toPre _ _ fun vi s₁ k₁ r₁ hK1 => ?_)) hs)
  have P₁ := P.keeps k₁
  refine wpAny_grow hK1 (it.run s₁ vi _ _ P₁.toPre r₁ fun It s₂ fp Pt St hIt k₂ W hst hfp hPt hown hK2 => ?_)
  have kp₂ := keeps_kp k₂
  have hItX : It ∉ C.X := P₁.toPre.fresh hIt
  have hItW : It ∉ C.W := fun m => hItX (P.ok.sub _ m)
  have hIt0 : C.H0.get? It = none := by
    cases q : C.H0.get? It with
    | none => rfl
    | some o => have := P₁.old It o q; rw [hIt] at this; cases this
  refine codeAny_forLoop_any (fun k s' => ∃ h' tk i I' ρ', s' = { s₂ with heap := h', toks := tk } ∧ K ≤ tk ∧ St i h' ∧ i ≤ ds.length ∧ k = ds.length + 1 - i ∧ Inv i I' ρ' ∧ SP C n I' ρ' h' ∧ KpBut C.W s₁.heap h') ?_ (ds.length + 1)
    ⟨s₂.heap, s₂.toks, 0, I, ρ, rfl, hK2, hst, Nat.zero_le _, rfl, h0, P₁.keeps k₂, kp₂.but⟩
  rintro k s' ⟨H, tk, i, I', ρ', rfl, hKt, hst', hle, rfl, hinv, P', hk⟩
  obtain ⟨hq₁, tq₁, rfl, kq₁⟩ := k₁
  obtain ⟨hq₂, tq₂, rfl, kq₂⟩ := k₂
  -- what the iterator's step changes is the iterator alone
  obtain ⟨oI, TI, eI, cI, nI, yI⟩ := hown _ _ hst'
  have isI : isIter oI = true := by unfold isIter; rw [cI]; exact yI
  have noI := NoDat.it eI isI
  have step : ∀ {hA : Heap}, (∀ b o, b ∉ [It] → H.get? b = some o → hA.get? b = some o) → SP C n I' ρ' hA := by
    intro hA hkA
    have k1 : ∀ b o, b ≠ It → H.get? b = some o → hA.get? b = some o := fun b o nb e => hkA b o (by simpa using nb) e
    refine P'.but noI hItX hIt0 k1 (P'.sf _ _ (fun b o _ hi e => k1 b o (fun q => ?_) e) P'.inv)
    rw [q, eI] at e
    cases e
    rw [isI] at hi; cases hi
  by_cases hlt : i < ds.length
  · refine wpAny_grow (K := K) (by exact hKt) (W.item i _ _ _ hlt hst' fun u hA tkA hPu hstA hkA hKA => ?_)
    obtain ⟨d, hd, rd⟩ := hPt i u hPu
    have PA := step hkA
    obtain ⟨ρ₁, hA1, hB1⟩ := turn i d I' ρ' hd hinv
    obtain ⟨oA, TA, eA, cA, nA, _⟩ := hown _ _ hstA
    have rdA : Rd C.X hA u d := by
      have r1 : Rd C.X H u d := rd.mono (hk.mono P.ok.sub)
      exact ((r1.off noI).mono fun b o nb e => hkA b o (fun m => nb (by rw [List.mem_singleton.mp m]; exact .head _)) e).re fun a m => .inl (.tail _ m)
    have hkW : KpBut C.W hq₁ hA := fun b o nb e => hkA b o (fun m => by rw [List.mem_singleton.mp m] at e; have := hIt; rw [e] at this; cases this) (hk b o nb e)
    refine letOwned eA cA nA ?_
    refine wpAny_grow hKA (hA1.run _ u PA rdA _ _ fun s₄ k₄ P₄ hK4 => ?_)
    obtain ⟨hB, tkB, rfl, kB⟩ := k₄
    have kB : KpBut (frA C.env) hA hB := kB
    refine wpAny_grow hK4 (hB1.run _ P₄ hK4 _ _ (fun I'' ρ'' s₅ hi k₅ P₅ hK5 => ?_) fun I'' ρ'' e v s₅ hp k₅ P₅ r₅ _ => ?_)
    · obtain ⟨hE, tkE, rfl, kE⟩ := k₅
      have kE : KpBut C.W hB hE := kE
      refine ⟨ds.length + 1 - (i + 1), by omega, hE, tkE, i + 1, I'', ρ'', rfl, hK5, ?_, hlt, rfl, hi, P₅, (hkW.trans (kB.mono P.fw.inW)).trans kE⟩
      refine W.frame _ _ _ hstA fun b hb o e => ?_
      have nb : b ∉ C.W := by
        rcases hfp b hb with q | ⟨q, _⟩
        · exact q ▸ hItW
        · exact q
      exact kE b o nb (kB b o (fun m => nb (P.fw.inW _ m)) e)
    · obtain ⟨hE, tkE, rfl, kE⟩ := k₅
      have kE : KpBut C.W hB hE := kE
      exact hR I'' ρ'' e v _ hp ⟨hE, tkE, rfl, fun b o nb e => kE b o nb (kB b o (fun m => nb (P.fw.inW _ m)) (hkW b o nb (kq₁ b o e)))⟩ P₅ r₅
  · have hin : i = ds.length := by omega
    subst hin
    refine wpAny_grow (K := K) (by exact hKt) (W.done _ _ _ hst' fun hA tkA hkA hKA => ?_)
    have PA := step hkA
    refine wpAny_execs_nil ?_
    refine (after I' ρ' hinv).run _ PA hKA _ _ (fun I'' ρ'' s₅ hp k₅ P₅ => ?_) fun I'' ρ'' e v s₅ hp k₅ P₅ r₅ => ?_
    · obtain ⟨hE, tkE, rfl, kE⟩ := k₅
      have kE : KpBut C.W hA hE := kE
      exact hN I'' ρ'' _ hp ⟨hE, tkE, rfl, fun b o nb e => kE b o nb (hkA b o (fun m => by rw [List.mem_singleton.mp m] at e; have := kq₁ _ _ e; have h2 := hIt; rw [this] at h2; cases h2) (hk b o nb (kq₁ b o e)))⟩ P₅
    · obtain ⟨hE, tkE, rfl, kE⟩ := k₅
      have kE : KpBut C.W hA hE := kE
      exact hR I'' ρ'' e v _ hp ⟨hE, tkE, rfl, fun b o nb e => kE b o nb (hkA b o (fun m => by rw [List.mem_singleton.mp m] at e; have := kq₁ _ _ e; have h2 := hIt; rw [this] at h2; cases h2) (hk b o nb (kq₁ b o e)))⟩ P₅ r₅
theorem JS_forS {x c : Str} {xp cp pos : Pos} {kc : Nat} {body rest : List Stmt} {Post : Out → Prop} (Inv : Cx → Nat → (Heap → Prop) → List (Str × AV) → Prop) (hx : Own C x) (ha : c.cps.all (· < 128) = true) (h0 : Inv C 0 I ρ)
    (turn : ∀ i ch I' ρ' u, c.cps[i]? = some ch → 0 < u → Inv C i I' ρ' → JSk (u + 1) C n I' ((x, .tok ⟨#[ch]⟩ u) :: ρ') body (fun o => match o with | .next I'' ρ'' => Inv C (i + 1) I'' ρ'' | .ret I'' e => Post (.ret I'' e)))
    (after : ∀ I' ρ', Inv C c.cps.size I' ρ' → JS C n I' ρ' rest Post)
    (hs : ∀ v, foldedSetIterable (.Constant (.str c) kc cp) C.env v = pure v := by intro _; rfl) : JS C n I ρ (.For (.Name x xp) (.Constant (.str c) kc cp) body [] pos :: rest) Post := by
  refine ⟨fun s P Q E hN hR => ?_⟩
  refine wpAny_execs_cons (wpAny_For (Calls.Constant_str ?_) hs)
  refine wpAny_pyIter_ascii ha ?_
  have k₁ : Keeps s { s with toks := s.toks + 1 } := keeps_tk s _
  have P₁ := P.keeps k₁
  have W := Walks.strAscii (prog := PR) (w := C.w) P₁.toPre.ok.hh s.heap.objs.size c s.toks
  have hIt : s.heap.get? s.heap.objs.size = none := none_size _
  have hst : (s.heap.push { cls := .type "str_ascii_iterator", data := .fields #[.str c s.toks, .int 0 0] }).IsStrIter s.heap.objs.size "str_ascii_iterator" c s.toks 0 := ⟨_, Heap.get?_push_size _ rfl, rfl, rfl⟩
  generalize hItq : s.heap.objs.size = It at W hIt hst ⊢
  have kp₂ : Kp s.heap (s.heap.push { cls := .type "str_ascii_iterator", data := .fields #[.str c s.toks, .int 0 0] }) := Kp.push _
  have hItX : It ∉ C.X := P₁.toPre.fresh hIt
  have hItW : It ∉ C.W := fun m => hItX (P.ok.sub _ m)
  have hIt0 : C.H0.get? It = none := by
    cases q : C.H0.get? It with
    | none => rfl
    | some o => have := P₁.old It o q; rw [hIt] at this; cases this
  generalize hnw : s.heap.push { cls := .type "str_ascii_iterator", data := .fields #[.str c s.toks, .int 0 0] } = H₂ at hst kp₂ ⊢
  refine codeAny_forLoop_any (fun k s' => ∃ h' tk i I' ρ', s' = { s with heap := h', toks := tk } ∧ 0 < tk ∧ h'.IsStrIter It "str_ascii_iterator" c s.toks i ∧ i ≤ c.cps.size ∧ k = c.cps.size + 1 - i ∧ Inv C i I' ρ' ∧ SP C n I' ρ' h' ∧ KpBut C.W s.heap h') ?_ (c.cps.size + 1)
    ⟨H₂, s.toks + 1, 0, I, ρ, rfl, Nat.succ_pos _, hst, Nat.zero_le _, rfl, h0, P.keeps (keeps_h' s kp₂), kp₂.but⟩
  rintro k s' ⟨H, tk, i, I', ρ', rfl, hKt, hst', hle, rfl, hinv, P', hk⟩
  obtain ⟨oI, eI, cI, _⟩ := id hst'
  have isI : isIter oI = true := by unfold isIter; rw [cI]; decide
  have noI := NoDat.it eI isI
  have step : ∀ {hA : Heap}, (∀ b o, b ∉ [It] → H.get? b = some o → hA.get? b = some o) → SP C n I' ρ' hA := by
    intro hA hkA
    have k1 : ∀ b o, b ≠ It → H.get? b = some o → hA.get? b = some o := fun b o nb e => hkA b o (by simpa using nb) e
    refine P'.but noI hItX hIt0 k1 (P'.sf _ _ (fun b o _ hi e => k1 b o (fun q => ?_) e) P'.inv)
    rw [q, eI] at e
    cases e
    rw [isI] at hi; cases hi
  by_cases hlt : i < c.cps.size
  · have hch : c.cps[i]? = some c.cps[i] := by simp [hlt]
    refine wpAny_pyNext_ascii_item (s := { s with heap := H, toks := tk }) hst' hch fun hA hstA hs' => ?_
    have hkA : ∀ b o, b ∉ [It] → H.get? b = some o → hA.get? b = some o := fun b o hb e => hs'.extBut b o (fun h => hb (by simp [h])) e
    have PA := step hkA
    obtain ⟨oA, eA, cA, _⟩ := id hstA
    have hkW : KpBut C.W s.heap hA := fun b o nb e => hkA b o (fun m => by rw [List.mem_singleton.mp m] at e; rw [hIt] at e; cases e) (hk b o nb e)
    refine letOwned eA cA (by decide) ?_
    refine wpAny_grow (K := tk + 1) (s := { s with heap := hA, toks := tk + 1 }) (Nat.le_refl _) ((JA_name (d := .tok ⟨#[c.cps[i]]⟩ tk) hx).run _ _ PA (.tok _ _) _ _ fun s₄ k₄ P₄ hK4 => ?_)
    obtain ⟨hB, tkB, rfl, kB⟩ := k₄
    have kB : KpBut (frA C.env) hA hB := kB
    refine wpAny_grow hK4 ((turn i _ I' ρ' tk hch hKt hinv).run _ P₄ hK4 _ _ (fun I'' ρ'' s₅ hi k₅ P₅ hK5 => ?_) fun I'' ρ'' e v s₅ hp k₅ P₅ r₅ _ => ?_)
    · obtain ⟨hE, tkE, rfl, kE⟩ := k₅
      have kE : KpBut C.W hB hE := kE
      refine ⟨c.cps.size + 1 - (i + 1), by omega, hE, tkE, i + 1, I'', ρ'', rfl, Nat.lt_of_lt_of_le (Nat.succ_pos _) hK5, ?_, hlt, rfl, hi, P₅, (hkW.trans (kB.mono P.fw.inW)).trans kE⟩
      refine W.frame _ _ _ hstA fun b hb o e => ?_
      have nb : b ∉ C.W := (List.mem_singleton.mp hb) ▸ hItW
      exact kE b o nb (kB b o (fun m => nb (P.fw.inW _ m)) e)
    · obtain ⟨hE, tkE, rfl, kE⟩ := k₅
      have kE : KpBut C.W hB hE := kE
      exact hR I'' ρ'' e v _ hp ⟨hE, tkE, rfl, fun b o nb e => kE b o nb (kB b o (fun m => nb (P.fw.inW _ m)) (hkW b o nb e))⟩ P₅ r₅
  · have hin : i = c.cps.size := by omega
    subst hin
    refine W.done _ _ _ hst' fun hA tkA hkA => ?_
    have PA := step hkA
    refine wpAny_execs_nil ?_
    refine (after I' ρ' hinv).run _ PA _ _ (fun I'' ρ'' s₅ hp k₅ P₅ => ?_) fun I'' ρ'' e v s₅ hp k₅ P₅ r₅ => ?_
    · obtain ⟨hE, tkE, rfl, kE⟩ := k₅
      have kE : KpBut C.W hA hE := kE
      exact hN I'' ρ'' _ hp ⟨hE, tkE, rfl, fun b o nb e => kE b o nb (hkA b o (fun m => by rw [List.mem_singleton.mp m, hIt] at e; cases e) (hk b o nb e))⟩ P₅
    · obtain ⟨hE, tkE, rfl, kE⟩ := k₅
      have kE : KpBut C.W hA hE := kE
      exact hR I'' ρ'' e v _ hp ⟨hE, tkE, rfl, fun b o nb e => kE b o nb (hkA b o (fun m => by rw [List.mem_singleton.mp m, hIt] at e; cases e) (hk b o nb e))⟩ P₅ r₅
end
end Mine
end -- K8

section -- K9
open PySem PySem.W PyProof.Rows PySem.Calls PyProof.V
set_option maxRecDepth 100000
set_option maxHeartbeats 1000000
namespace Mine
section
variable {C : Cx} {n : Nat} {I : Heap → Prop} {ρ : List (Str × AV)}
/-- o.replace(l, l.upper()) -/
theorem Jk_replace {K : Nat} {o l : Str} {x y : Str} {u : Tok} {op ap lp lp2 ap2 pos2 pos : Pos} (ho : ρ.lookup o = some (.str x)) (hl : ρ.lookup l = some (.tok y u)) (hu : 0 < u) (hK : u + 1 ≤ K)
    (hyz : (y == Txt.upper y) = false) (hf : Builtin.Str.tooLong (Txt.upper y).length = false) (hb : x.length + (x.length + 1) * (Txt.upper y).length ≤ 16777216)
    (hod : (o == ("__debug__" : Str)) = false := by decide) (hld : (l == ("__debug__" : Str)) = false := by decide)
    (he1 : (ap.endLine == pos.line) = true := by rfl) (he2 : (ap2.endLine == pos2.line) = true := by rfl) :
    Jk K C n I ρ (.Call (.Attribute (.Name o op) "replace" ap) [.Name l lp, .Call (.Attribute (.Name l lp2) "upper" ap2) [] [] pos2] [] pos) (.str (Txt.replace x y (Txt.upper y))) := by
  refine ⟨fun s P hK0 Q E hQ => ?_⟩
  refine ev_meth (wpAny_grow hK0 ((J_name ho hod).run s P _ _ fun v s₁ k₁ r₁ hK1 => ?_)) (base_of rfl) (form0 (args := [.Name l lp, .Call (.Attribute (.Name l lp2) "upper" ap2) [] [] pos2]) rfl (Nat.le_of_ble_eq_true rfl)) he1
  cases r₁
  have P₁ := P.keeps k₁
  refine GM.replace ?_
  refine callWith_method1 (spliced_more (wpAny_grow hK1 ((J_name hl hld).run s₁ P₁ _ _ fun v₂ s₂ k₂ r₂ hK2 => ?_)) (star_cons rfl)) (star_cons rfl) (back_star rfl)
  cases r₂
  have P₂ := P₁.keeps k₂
  refine spliced_more (ev_meth (wpAny_grow hK2 ((J_name hl hld).run s₂ P₂ _ _ fun v₃ s₃ k₃ r₃ hK3 => ?_)) (base_of rfl) (form0 (args := []) rfl (by decide)) he2) (star_cons rfl)
  cases r₃
  have P₃ := P₂.keeps k₃
  refine GM.upper (callWith_method0 ?_)
  refine SC.upper hf (spliced_none ?_)
  refine SC.replace (Nat.pos_iff_ne_zero.mp hu) (Nat.pos_iff_ne_zero.mp (Nat.lt_of_lt_of_le (Nat.succ_pos u) (Nat.le_trans hK hK3))) (by have : u + 1 ≤ s₃.toks := Nat.le_trans hK hK3; exact Nat.ne_of_lt this) hyz hb fun t' k => ?_
  exact hQ _ _ (keeps_trans k₁ (keeps_trans k₂ (keeps_trans k₃ (keeps_tk s₃ _)))) (.str _ _)
theorem JEk_methD {K : Nat} {D : List (PyData × PyData)} {p t dx l f : Addr} {ds ds' : List AV} {d1 d2 d : AV} {o m : Str} {op ap pos : Pos} {e1 e2 : Expr} (ho : ρ.lookup o = some (.at t)) (off : Off C t dx l) (hpF : p ∉ frA C.env) (hpl : p ≠ l)
    (ha : Jk K C n (TD C.w D p C.X t dx l ds) ρ e1 d1) (ha2 : J C n (TD C.w D p C.X t dx l ds) ρ e2 d2) (hc : CallsW C n (TD C.w D p C.X t dx l ds) ρ (.ref f) [.at t, d1, d2] t dx l ds' d)
    (hf : findIn (HK C.w.params) (.ref 175) m = some (some (.ref f))) (hn : isFn (HK C.w.params) (.ref f) = true) (hkp : keepIn (HK C.w.params) (.ref f) = true)
    (hm : ("_headers" == m) = false := by decide) (hd' : (o == ("__debug__" : Str)) = false := by decide) (hl : (ap.endLine == pos.line) = true := by rfl) (h2 : W.isStarred e1 = false := by rfl) (h3 : W.isStarred e2 = false := by rfl) :
    JEk K C n (TD C.w D p C.X t dx l ds) ρ (.Call (.Attribute (.Name o op) m ap) [e1, e2] [] pos) (TD C.w D p C.X t dx l ds') d := by
  refine ⟨fun s P hK Q E hQ => ?_⟩
  have h4 : [e1, e2].any W.isStarred = false := by simp only [List.any_cons, List.any_nil, h2, h3]; rfl
  refine ev_meth (wpAny_grow hK ((J_name ho hd').run s P.toPre _ _ fun v s₁ k₁ r₁ hK1 => ?_)) (base_of rfl) (form0 (args := [e1, e2]) h4 (Nat.le_of_ble_eq_true rfl)) hl
  cases r₁
  have P₁ := P.keeps k₁
  refine gm_tab P₁.toPre P₁.inv.tab hf hn hm ?_
  have hJL : JL C n (TD C.w D p C.X t dx l ds) ρ [e2] [d2] := JL_cons ha2 JL_nil h3
  refine callWith_K P₁.toPre.K hkp (spliced_more (ha.run s₁ P₁.toPre hK1 _ _ fun v₂ s₂ k₂ r₂ => hJL.run pos s₂ (P₁.keeps k₂).toPre _ _ fun vs s₂' k₂' r₂' => ⟨((P₁.keeps k₂).keeps k₂').toPre.K, ?_⟩) (star_cons h2)) (star_cons h2) (back_star (by simp only [List.any_cons, List.any_nil, h3]; rfl))
  have P₂ := (P₁.keeps k₂).keeps k₂'
  refine hc.run s₂' _ _ _ P₂.toPre (.cons (.at t) (.cons (r₂.mono (keeps_kp k₂').but) r₂')) fun v s₃ k₃ T₃ r₃ => ?_
  obtain ⟨h', tk, rfl, kk⟩ := k₃
  obtain ⟨vs, q, el, _⟩ := T₃.li
  obtain ⟨od, ed, td⟩ := P₂.inv.dict
  have D₃ : PD C.w D p h' := ⟨od, kk _ _ (by simpa using hpl) ed, td⟩
  have P₃ := P₂.upd kk ⟨_, el⟩ (P.ok.sub _ off.w) off.l (I' := TD C.w D p C.X t dx l ds') ⟨T₃, D₃⟩ TD.st (TD.sf (fun b m => P.ok.sub _ (P.fw.inW _ m)) off.t off.d off.l hpF)
  exact hQ v _ ((Ch.of k₁).trans ((Ch.of k₂).trans ((Ch.of k₂').trans ⟨h', tk, rfl, kk.mono fun a m => List.mem_singleton.mp m ▸ off.w⟩))) P₃ r₃
end
end Mine
end -- K9

section -- PQ
namespace Mine
/-- the figure's index at the row k -/
noncomputable def figN (r : List Int) (k : Nat) : Nat := 3 + (rAt r k).toNat
/-- the corner table's clauses -/
noncomputable def cornersF (r : List Int) : List (List Nat) := [[figN r 0], [figN r 2, 2], [figN r 6, 1], [figN r 8, 1, 2], [figN r 18, 0], [figN r 20, 0, 2], [figN r 24, 0, 1], [figN r 26, 0, 1, 2]]
/-- the three figures -/
noncomputable def figs3 : List Int := [0, 1, 2]
theorem mem3_of {a : Int} (h0 : 0 ≤ a) (h2 : a ≤ 2) : a ∈ figs3 := by
  have : a = 0 ∨ a = 1 ∨ a = 2 := by omega
  rcases this with rfl | rfl | rfl <;> decide
theorem of_mem3 {a : Int} (h : a ∈ figs3) : 0 ≤ a ∧ a ≤ 2 := by
  simp only [figs3, List.mem_cons, List.not_mem_nil, or_false] at h
  omega
/-- sums and conjunctions along a fold -/
theorem fold_both {α : Type} {f : Int × Bool → α → Int × Bool} {g : α → Int} {b : α → Bool} (hf : ∀ q a, f q a = (q.1 + g a, q.2 && b a)) : ∀ (l : List α) (q : Int × Bool), l.foldl f q = (q.1 + (l.map g).sum, q.2 && l.all b)
  | [], q => by simp
  | a :: l, q => by
    rw [List.foldl_cons, fold_both hf l, hf]
    simp only [List.map_cons, List.sum_cons, List.all_cons, Int.add_assoc, Bool.and_assoc]
noncomputable def lineG (r : List Int) (wt x : Int) : Int := if (x.fdiv wt).fmod 3 == 0 then (figs3.map (pay3 (rAt r x) (rAt r (x + wt)) (rAt r (x + 2 * wt)))).sum else 0
noncomputable def lineB (r : List Int) (wt x : Int) : Bool := if (x.fdiv wt).fmod 3 == 0 then figs3.all (mid3 (rAt r x) (rAt r (x + wt)) (rAt r (x + 2 * wt))) else true
theorem lineF_eq (r : List Int) (wt : Int) (q : Int × Bool) (x : Int) : lineF r wt q x = (q.1 + lineG r wt x, q.2 && lineB r wt x) := by
  unfold lineF lineG lineB
  cases (x.fdiv wt).fmod 3 == 0 with
  | false => simp
  | true => simp only [if_true]; exact fold_both (fun q a => rfl) _ _
theorem weightF_eq (r : List Int) (q : Int × Bool) (wt : Int) : weightF r q wt = (q.1 + (ints27.map (lineG r wt)).sum, q.2 && ints27.all (lineB r wt)) := fold_both (lineF_eq r wt) _ _
noncomputable def wts : List Int := [9, 3, 1]
theorem lies_eq (r : List Int) : lies r = (0 + (wts.map fun wt => (ints27.map (lineG r wt)).sum).sum, true && wts.all fun wt => ints27.all (lineB r wt)) := fold_both (weightF_eq r) _ _
theorem sum_nn {α : Type} {g : α → Int} : ∀ {l : List α}, (∀ a ∈ l, 0 ≤ g a) → 0 ≤ (l.map g).sum
  | [], _ => by simp
  | a :: l, h => by
    have h1 := h a (.head _)
    have h2 := sum_nn fun b m => h b (.tail _ m)
    simp only [List.map_cons, List.sum_cons]; omega
theorem sum_zero {α : Type} {g : α → Int} {b : α → Bool} : ∀ {l : List α}, (∀ a ∈ l, 0 ≤ g a) → (∀ a ∈ l, g a = 0 ↔ b a = true) → ((l.map g).sum = 0 ↔ l.all b = true)
  | [], _, _ => by simp
  | a :: l, h, k => by
    have h1 := h a (.head _)
    have h2 := sum_nn fun b m => h b (.tail _ m)
    have ih := sum_zero (fun b m => h b (.tail _ m)) fun b m => k b (.tail _ m)
    have k1 := k a (.head _)
    simp only [List.map_cons, List.sum_cons, List.all_cons, Bool.and_eq_true]
    rw [← k1, ← ih]
    omega
theorem pay_key : ∀ a ∈ figs3, ∀ b ∈ figs3, ∀ c ∈ figs3, (figs3.map (pay3 a b c)).sum = 0 ↔ figs3.all (mid3 a b c) = true := by decide +kernel
/-- the figures of a rule -/
noncomputable def Fig (r : List Int) : Prop := ∀ i, 0 ≤ rAt r i ∧ rAt r i ≤ 2
theorem Fig.mem {r : List Int} (h : Fig r) (i : Int) : rAt r i ∈ figs3 := mem3_of (h i).1 (h i).2
/-- no one lies -/
noncomputable def Honest (r : List Int) : Prop := ∀ wt ∈ wts, ∀ x ∈ ints27, lineB r wt x = true
theorem honest_two (r : List Int) : (lies r).2 = true ↔ Honest r := by
  rw [lies_eq]
  simp only [Bool.true_and, List.all_eq_true]
  rfl
theorem honest_one {r : List Int} (h : Fig r) : (lies r).1 = 0 ↔ (lies r).2 = true := by
  rw [lies_eq]
  simp only [Bool.true_and, Int.zero_add]
  have nn : ∀ wt x, 0 ≤ lineG r wt x := by
    intro wt x
    unfold lineG
    split
    · exact sum_nn fun w _ => by unfold pay3; omega
    · exact Int.le_refl _
  refine sum_zero (fun wt _ => sum_nn fun x _ => nn wt x) fun wt _ => sum_zero (fun x _ => nn wt x) fun x _ => ?_
  unfold lineG lineB
  split
  · exact pay_key _ (h.mem _) _ (h.mem _) _ (h.mem _)
  · simp
/-- what one voter can bring about -/
noncomputable def Form (φ : Int → Int) : Prop := ∃ A ∈ figs3, ∃ B ∈ figs3, ∀ w ∈ figs3, φ w = max A (min B w)
theorem form_min0 : ∀ A ∈ figs3, ∀ B ∈ figs3, ∀ A' ∈ figs3, ∀ B' ∈ figs3, ∀ w ∈ figs3, min (max A (min B w)) (max A' (min B' w)) = max (min A A') (min (max (max (min A B') (min A' B)) (min B B')) w) := by decide +kernel
theorem form_max0 : ∀ A ∈ figs3, ∀ B ∈ figs3, ∀ A' ∈ figs3, ∀ B' ∈ figs3, ∀ w ∈ figs3, max (max A (min B w)) (max A' (min B' w)) = max (max A A') (min (max B B') w) := by decide +kernel
theorem figs_min {a b : Int} (ha : a ∈ figs3) (hb : b ∈ figs3) : min a b ∈ figs3 := by
  have := of_mem3 ha; have := of_mem3 hb; exact mem3_of (by omega) (by omega)
theorem figs_max {a b : Int} (ha : a ∈ figs3) (hb : b ∈ figs3) : max a b ∈ figs3 := by
  have := of_mem3 ha; have := of_mem3 hb; exact mem3_of (by omega) (by omega)
theorem Form.inf {φ ψ : Int → Int} : Form φ → Form ψ → Form fun w => min (φ w) (ψ w)
  | ⟨A, hA, B, hB, h⟩, ⟨A', hA', B', hB', h'⟩ => ⟨_, figs_min hA hA', _, figs_max (figs_max (figs_min hA hB') (figs_min hA' hB)) (figs_min hB hB'), fun w hw => by show min (φ w) (ψ w) = _; rw [h w hw, h' w hw]; exact form_min0 _ hA _ hB _ hA' _ hB' w hw⟩
theorem Form.sup {φ ψ : Int → Int} : Form φ → Form ψ → Form fun w => max (φ w) (ψ w)
  | ⟨A, hA, B, hB, h⟩, ⟨A', hA', B', hB', h'⟩ => ⟨_, figs_max hA hA', _, figs_max hB hB', fun w hw => by show max (φ w) (ψ w) = _; rw [h w hw, h' w hw]; exact form_max0 _ hA _ hB _ hA' _ hB' w hw⟩
theorem form_id0 : ∀ w ∈ figs3, w = max 0 (min 2 w) := by decide
theorem form_const0 : ∀ K ∈ figs3, ∀ w ∈ figs3, K = max K (min 0 w) := by decide
theorem Form.id {φ : Int → Int} (h : ∀ w ∈ figs3, φ w = w) : Form φ := ⟨0, by decide, 2, by decide, fun w hw => (h w hw).trans (form_id0 w hw)⟩
theorem Form.const {φ : Int → Int} {K : Int} (hK : K ∈ figs3) (h : ∀ w ∈ figs3, φ w = K) : Form φ := ⟨K, hK, 0, by decide, fun w hw => (h w hw).trans (form_const0 K hK w hw)⟩
noncomputable def idx6 : List Nat := [0, 1, 2, 3, 4, 5]
theorem idx6_mem {k : Nat} (h : k < 6) : k ∈ idx6 := by
  have : k = 0 ∨ k = 1 ∨ k = 2 ∨ k = 3 ∨ k = 4 ∨ k = 5 := by omega
  rcases this with rfl | rfl | rfl | rfl | rfl | rfl <;> decide
noncomputable def rowOk (wt x : Int) (k : Nat) : Bool := figs3.all (fun w => rowAt (x + w * wt) k == w) || (figs3.contains (rowAt x k) && figs3.all fun w => rowAt (x + w * wt) k == rowAt x k)
theorem row_key0 : (wts.all fun wt => ints27.all fun x => !((x.fdiv wt).fmod 3 == 0) || idx6.all (rowOk wt x)) = true := by decide +kernel
theorem row_form {wt x : Int} (hw : wt ∈ wts) (hx : x ∈ ints27) (h0 : ((x.fdiv wt).fmod 3 == 0) = true) {k : Nat} (hk : k < 6) : Form fun w => rowAt (x + w * wt) k := by
  have h1 := List.all_eq_true.mp (List.all_eq_true.mp row_key0 wt hw) x hx
  rw [h0] at h1
  have h1 : idx6.all (rowOk wt x) = true := h1
  have h2 := List.all_eq_true.mp h1 k (idx6_mem hk)
  unfold rowOk at h2
  rw [Bool.or_eq_true, Bool.and_eq_true] at h2
  rcases h2 with h2 | ⟨h2, h3⟩
  · exact Form.id fun w hw => eq_of_beq (List.all_eq_true.mp h2 w hw)
  · exact Form.const (List.contains_iff_mem.mp h2) fun w hw => eq_of_beq (List.all_eq_true.mp h3 w hw)
theorem lmin_form {α : Type} {f : Int → α → Int} : ∀ {c : List α}, c ≠ [] → (∀ k ∈ c, Form fun w => f w k) → Form fun w => lmin (c.map (f w))
  | [], h, _ => absurd rfl h
  | [k], _, h => h k (.head _)
  | k :: j :: c, _, h => by
    have ih := lmin_form (f := f) (c := j :: c) (by simp) fun i m => h i (.tail _ m)
    exact (h k (.head _)).inf ih
theorem lmax_form {α : Type} {f : Int → α → Int} : ∀ {c : List α}, c ≠ [] → (∀ k ∈ c, Form fun w => f w k) → Form fun w => lmax (c.map (f w))
  | [], h, _ => absurd rfl h
  | [k], _, h => h k (.head _)
  | k :: j :: c, _, h => by
    have ih := lmax_form (f := f) (c := j :: c) (by simp) fun i m => h i (.tail _ m)
    exact (h k (.head _)).sup ih
theorem lmax_form0 {α : Type} {f : Int → α → Int} (c : List α) (h : ∀ k ∈ c, Form fun w => f w k) : Form fun w => lmax (0 :: c.map (f w)) := by
  have h0 : Form fun _ => (0 : Int) := Form.const (by decide) fun _ _ => rfl
  cases c with
  | nil => exact h0
  | cons k c => exact h0.sup (lmax_form (f := f) (c := k :: c) (by simp) h)
theorem read_form {cs : List (List Nat)} (h6 : ∀ c ∈ cs, ∀ i ∈ c, i < 6) {wt x : Int} (hw : wt ∈ wts) (hx : x ∈ ints27) (h0 : ((x.fdiv wt).fmod 3 == 0) = true) : Form fun w => readAt cs (x + w * wt) := by
  unfold readAt
  refine lmax_form0 (f := fun w c => lmin (List.map (rowAt (x + w * wt)) c)) _ fun c hc => ?_
  obtain ⟨h1, h2⟩ := List.mem_filter.mp hc
  refine lmin_form (f := fun w k => rowAt (x + w * wt) k) (fun q => by rw [q] at h2; cases h2) fun k hk => row_form hw hx h0 (h6 c h1 k hk)
theorem form_mid0 : ∀ A ∈ figs3, ∀ B ∈ figs3, figs3.all (mid3 (max A (min B 0)) (max A (min B 1)) (max A (min B 2))) = true := by decide +kernel
theorem readF_at {cs : List (List Nat)} {x : Int} (h : x ∈ ints27) : rAt (readF cs) x = readAt cs x := by
  unfold ints27 at h
  obtain ⟨i, hi, rfl⟩ := List.mem_map.mp h
  have hi : i < 27 := List.mem_range.mp hi
  unfold rAt readF ints27
  rw [List.map_map, List.getD_eq_getElem?_getD, List.getElem?_map, Int.toNat_natCast, List.getElem?_range hi]
  rfl
theorem row_in0 : (wts.all fun wt => ints27.all fun x => !((x.fdiv wt).fmod 3 == 0) || (ints27.contains (x + wt) && ints27.contains (x + 2 * wt))) = true := by decide +kernel
theorem row_in {wt x : Int} (hw : wt ∈ wts) (hx : x ∈ ints27) (h0 : ((x.fdiv wt).fmod 3 == 0) = true) : x + wt ∈ ints27 ∧ x + 2 * wt ∈ ints27 := by
  have h1 := List.all_eq_true.mp (List.all_eq_true.mp row_in0 wt hw) x hx
  rw [h0] at h1
  have h1 : (ints27.contains (x + wt) && ints27.contains (x + 2 * wt)) = true := h1
  rw [Bool.and_eq_true] at h1
  exact ⟨List.contains_iff_mem.mp h1.1, List.contains_iff_mem.mp h1.2⟩
theorem honest_read {cs : List (List Nat)} (h6 : ∀ c ∈ cs, ∀ i ∈ c, i < 6) : Honest (readF cs) := by
  intro wt hw x hx
  unfold lineB
  split
  · rename_i h0
    obtain ⟨m1, m2⟩ := row_in hw hx h0
    rw [readF_at hx, readF_at m1, readF_at m2]
    obtain ⟨A, hA, B, hB, h⟩ := read_form h6 hw hx h0
    have e0 : readAt cs (x + 0 * wt) = _ := h 0 (by decide)
    have e1 : readAt cs (x + 1 * wt) = _ := h 1 (by decide)
    have e2 : readAt cs (x + 2 * wt) = _ := h 2 (by decide)
    rw [show x + 0 * wt = x by omega] at e0
    rw [show x + 1 * wt = x + wt by omega] at e1
    rw [e0, e1, e2]
    exact form_mid0 A hA B hB
  · rfl
/-- along a line of an honest rule -/
theorem mid_form0 : ∀ a ∈ figs3, ∀ b ∈ figs3, ∀ c ∈ figs3, figs3.all (mid3 a b c) = true → a = max a (min c 0) ∧ b = max a (min c 1) ∧ c = max a (min c 2) := by decide +kernel
theorem honest_line {r : List Int} (hf : Fig r) (h : Honest r) {wt x : Int} (hw : wt ∈ wts) (hx : x ∈ ints27) (h0 : ((x.fdiv wt).fmod 3 == 0) = true) {w : Int} (hd : w ∈ figs3) : rAt r (x + w * wt) = max (rAt r x) (min (rAt r (x + 2 * wt)) w) := by
  have h1 := h wt hw x hx
  unfold lineB at h1
  rw [if_pos h0] at h1
  obtain ⟨e0, e1, e2⟩ := mid_form0 _ (hf.mem _) _ (hf.mem _) _ (hf.mem _) h1
  have := of_mem3 hd
  have : w = 0 ∨ w = 1 ∨ w = 2 := by omega
  rcases this with rfl | rfl | rfl
  · rw [show x + 0 * wt = x by omega]; exact e0
  · rw [show x + 1 * wt = x + wt by omega]; exact e1
  · exact e2
theorem row_fig {r : List Int} (hf : Fig r) (x : Int) (k : Nat) : rowAt x (figN r k) = rAt r k := by
  have h := hf k
  have : rAt r k = 0 ∨ rAt r k = 1 ∨ rAt r k = 2 := by omega
  unfold figN
  rcases this with e | e | e <;> rw [e] <;> rfl
theorem dist_min (a b c : Int) : min (max a b) c = max (min a c) (min b c) := by omega
theorem lines0 : ∀ d1 ∈ figs3, ∀ d0 ∈ figs3, d0 + d1 * 3 ∈ ints27 ∧ (((d0 + d1 * 3).fdiv 9).fmod 3 == 0) = true ∧ d0 ∈ ints27 ∧ ((d0.fdiv 3).fmod 3 == 0) = true ∧ d0 ∈ ints27 ∧ ((d0.fdiv 3).fmod 3 == 0) = true ∧ d0 + 2 * 9 ∈ ints27 ∧ (((d0 + 2 * 9).fdiv 3).fmod 3 == 0) = true := by decide +kernel
theorem read_corners {r : List Int} (hf : Fig r) (h : Honest r) {d2 d1 d0 : Int} (h2 : d2 ∈ figs3) (h1 : d1 ∈ figs3) (h0 : d0 ∈ figs3) (hr : rowAt (9 * d2 + 3 * d1 + d0) 0 = d2 ∧ rowAt (9 * d2 + 3 * d1 + d0) 1 = d1 ∧ rowAt (9 * d2 + 3 * d1 + d0) 2 = d0) :
    readAt (cornersF r) (9 * d2 + 3 * d1 + d0) = rAt r (9 * d2 + 3 * d1 + d0) := by
  obtain ⟨r0, r1, r2⟩ := hr
  have e : readAt (cornersF r) (9 * d2 + 3 * d1 + d0) = max 0 (max (rAt r 0) (max (min (rAt r 2) d0) (max (min (rAt r 6) d1) (max (min (rAt r 8) (min d1 d0)) (max (min (rAt r 18) d2) (max (min (rAt r 20) (min d2 d0)) (max (min (rAt r 24) (min d2 d1)) (min (rAt r 26) (min d2 (min d1 d0)))))))))) := by
    unfold readAt cornersF
    simp only [List.filter_cons, List.filter_nil, List.isEmpty_cons, Bool.not_false, if_true, List.map_cons, List.map_nil, lmin, lmax, row_fig hf, r0, r1, r2]
    rfl
  obtain ⟨q1, q2, q3, q4, q5, q6, q7, q8⟩ := lines0 d1 h1 d0 h0
  have l9 := honest_line hf h (wt := 9) (by decide) q1 q2 h2
  have l3 := honest_line hf h (wt := 3) (by decide) q3 q4 h1
  have l3' := honest_line hf h (wt := 3) (by decide) q5 q6 h1
  have l3s := honest_line hf h (wt := 3) (x := d0 + 2 * 9) (by decide) q7 q8 h1
  have a0 := honest_line hf h (wt := 1) (x := 0) (by decide) (by decide) (by decide) h0
  have a6 := honest_line hf h (wt := 1) (x := 6) (by decide) (by decide) (by decide) h0
  have a18 := honest_line hf h (wt := 1) (x := 18) (by decide) (by decide) (by decide) h0
  have a24 := honest_line hf h (wt := 1) (x := 24) (by decide) (by decide) (by decide) h0
  rw [show d0 + 2 * 9 + d1 * 3 = d0 + d1 * 3 + 2 * 9 by omega] at l3s
  rw [show (0 : Int) + d0 * 1 = d0 by omega, show (0 : Int) + 2 * 1 = 2 by omega] at a0
  rw [show (6 : Int) + d0 * 1 = d0 + 2 * 3 by omega, show (6 : Int) + 2 * 1 = 8 by omega] at a6
  rw [show (18 : Int) + d0 * 1 = d0 + 2 * 9 by omega, show (18 : Int) + 2 * 1 = 20 by omega] at a18
  rw [show (24 : Int) + d0 * 1 = d0 + 2 * 9 + 2 * 3 by omega, show (24 : Int) + 2 * 1 = 26 by omega] at a24
  rw [e, show 9 * d2 + 3 * d1 + d0 = d0 + d1 * 3 + d2 * 9 by omega, l9, l3, l3s, a0, a6, a18, a24]
  have hc := (hf 0).1
  generalize rAt r 0 = c0 at hc
  generalize rAt r 2 = c2
  generalize rAt r 6 = c6
  generalize rAt r 8 = c8
  generalize rAt r 18 = c18
  generalize rAt r 20 = c20
  generalize rAt r 24 = c24
  generalize rAt r 26 = c26
  clear e l9 l3 l3' l3s a0 a6 a18 a24 q1 q2 q3 q4 q5 q6 q7 q8 hf h r0 r1 r2 h0 h1 h2
  rw [← Int.max_assoc, Int.max_eq_right hc]
  simp only [dist_min]
  ac_rfl
theorem rows0 : ∀ d2 ∈ figs3, ∀ d1 ∈ figs3, ∀ d0 ∈ figs3, rowAt (9 * d2 + 3 * d1 + d0) 0 = d2 ∧ rowAt (9 * d2 + 3 * d1 + d0) 1 = d1 ∧ rowAt (9 * d2 + 3 * d1 + d0) 2 = d0 := by decide +kernel
theorem digits0 : ∀ x ∈ ints27, x.fdiv 9 ∈ figs3 ∧ (x.fdiv 3).fmod 3 ∈ figs3 ∧ x.fmod 3 ∈ figs3 ∧ 9 * x.fdiv 9 + 3 * (x.fdiv 3).fmod 3 + x.fmod 3 = x := by decide +kernel
theorem figN_lt' {r : List Int} (hf : Fig r) (k : Nat) : figN r k < 6 := by have := hf k; unfold figN; omega
theorem corners_lt {r : List Int} (hf : Fig r) : ∀ c ∈ cornersF r, ∀ i ∈ c, i < 6 := by
  have := figN_lt' hf
  intro c hc i hi
  simp only [cornersF, List.mem_cons, List.not_mem_nil, or_false] at hc
  rcases hc with rfl | rfl | rfl | rfl | rfl | rfl | rfl | rfl <;> simp only [List.mem_cons, List.not_mem_nil, or_false] at hi <;> (have h0 := this 0; have h1 := this 2; have h2 := this 6; have h3 := this 8; have h4 := this 18; have h5 := this 20; have h6 := this 24; have h7 := this 26; omega)
/-- the corners tell an honest rule, and no other -/
theorem told_iff {r : List Int} (hl : r.length = 27) (hf : Fig r) : readF (cornersF r) = r ↔ Honest r := by
  constructor
  · intro e
    rw [← e]
    exact honest_read (corners_lt hf)
  · intro h
    have hlen : (readF (cornersF r)).length = r.length := by rw [hl]; rfl
    refine List.ext_getElem hlen fun i h1 h2 => ?_
    have hi : i < 27 := by omega
    have hx : (i : Int) ∈ ints27 := List.mem_map.mpr ⟨i, List.mem_range.mpr hi, rfl⟩
    obtain ⟨m2, m1, m0, e⟩ := digits0 _ hx
    have k := read_corners hf h m2 m1 m0 (rows0 _ m2 _ m1 _ m0)
    rw [e, ← readF_at hx] at k
    have g : ∀ (l : List Int) (hh : i < l.length), rAt l (i : Int) = l[i] := by
      intro l hh
      unfold rAt
      rw [Int.toNat_natCast, List.getD_eq_getElem?_getD, List.getElem?_eq_getElem hh]; rfl
    rw [← g _ h1, ← g _ h2, k]
end Mine
end -- PQ

section -- PC
open PySem PySem.W PyProof.Rows PySem.Calls PyProof.V
set_option maxRecDepth 100000
set_option maxHeartbeats 1000000
namespace Mine
/-- the sets of voters and their rows -/
noncomputable def pnD : List (Str × Nat) := [("n", 0), ("nc", 2), ("nb", 6), ("nbc", 8), ("na", 18), ("nac", 20), ("nab", 24), ("nabc", 26)]
noncomputable def pn : List Str := ["n", "nc", "nb", "nbc", "na", "nac", "nab", "nabc"]
noncomputable def sgs : List Str := ["a", "b", "c"]
noncomputable def ln1 (r : List Int) : List Ln := pnD.map fun q => (q.1, lett (figN r q.2))
noncomputable def has (c x : Str) : Bool := !(Builtin.Str.occurrences x c 0 x.length 1).isEmpty
noncomputable def dress (c x : Str) : List Ln := if has c x then [(Txt.replace x c (Txt.upper c), c)] else []
noncomputable def ln2 (i j : Nat) : List Ln := (sgs.take i).flatMap (fun c => pn.flatMap (dress c)) ++ (pn.take j).flatMap (dress (sgs.getD i "a"))
theorem ln2_step {i j : Nat} {c x : Str} (hc : sgs[i]? = some c) (hx : pn[j]? = some x) : ln2 i (j + 1) = ln2 i j ++ dress c x := by
  unfold ln2
  rw [List.take_add_one, hx, Option.toList_some, List.flatMap_append, List.getD_eq_getElem?_getD, hc]
  simp
theorem ln2_next {i : Nat} {c : Str} (hc : sgs[i]? = some c) : ln2 (i + 1) 0 = ln2 i pn.length := by
  unfold ln2
  rw [List.take_add_one, hc, Option.toList_some, List.flatMap_append, List.take_length, List.getD_eq_getElem?_getD (i := i), hc]
  simp
noncomputable def okLn (kv : Ln) : Bool := pins.contains kv.1 && vals.contains kv.2
theorem dress_ok : (sgs.all fun c => pn.all fun x => (dress c x).all okLn) = true := by kernel_rfl
theorem okLn_iff {kv : Ln} (h : okLn kv = true) : kv.1 ∈ pins ∧ kv.2 ∈ vals := by
  unfold okLn at h
  rw [Bool.and_eq_true] at h
  exact ⟨List.contains_iff_mem.mp h.1, List.contains_iff_mem.mp h.2⟩
theorem dress_mem {c x : Str} (hc : c ∈ sgs) (hx : x ∈ pn) {kv : Ln} (h : kv ∈ dress c x) : kv.1 ∈ pins ∧ kv.2 ∈ vals :=
  okLn_iff (List.all_eq_true.mp (List.all_eq_true.mp (List.all_eq_true.mp dress_ok c hc) x hx) kv h)
theorem dress_len (c x : Str) : (dress c x).length ≤ 1 := by unfold dress; split <;> simp
theorem flat_len1 (c : Str) : ∀ l : List Str, (l.flatMap (dress c)).length ≤ l.length
  | [] => Nat.le_refl _
  | x :: l => by rw [List.flatMap_cons, List.length_append, List.length_cons]; have := dress_len c x; have := flat_len1 c l; omega
theorem flat_len2 : ∀ l : List Str, (l.flatMap fun c => pn.flatMap (dress c)).length ≤ 8 * l.length
  | [] => Nat.le_refl _
  | c :: l => by rw [List.flatMap_cons, List.length_append, List.length_cons]; have := flat_len1 c pn; have := flat_len2 l; have : pn.length = 8 := rfl; omega
theorem ln2_short {i j : Nat} (hi : i ≤ 2) : (ln2 i j).length ≤ 24 ∧ ∀ kv ∈ ln2 i j, kv.1 ∈ pins ∧ kv.2 ∈ vals := by
  constructor
  · unfold ln2
    rw [List.length_append]
    have a := flat_len2 (sgs.take i)
    have b := flat_len1 (sgs.getD i "a") (pn.take j)
    rw [List.length_take] at a b
    have : pn.length = 8 := rfl
    omega
  · intro kv h
    unfold ln2 at h
    rcases List.mem_append.mp h with h | h
    · obtain ⟨c, hc, h⟩ := List.mem_flatMap.mp h
      obtain ⟨x, hx, h⟩ := List.mem_flatMap.mp h
      exact dress_mem (List.mem_of_mem_take hc) hx h
    · obtain ⟨x, hx, h⟩ := List.mem_flatMap.mp h
      refine dress_mem ?_ (List.mem_of_mem_take hx) h
      have : i = 0 ∨ i = 1 ∨ i = 2 := by omega
      rcases this with rfl | rfl | rfl <;> decide
theorem lett_vals {k : Nat} (h : k < 6) : lett k ∈ vals := by
  have : k = 0 ∨ k = 1 ∨ k = 2 ∨ k = 3 ∨ k = 4 ∨ k = 5 := by omega
  rcases this with rfl | rfl | rfl | rfl | rfl | rfl <;> decide +kernel
theorem figN_lt {r : List Int} {k : Nat} (h3 : ∀ i, 0 ≤ rAt r i ∧ rAt r i ≤ 2) : figN r k < 6 := by
  unfold figN; have := h3 k; omega
theorem pnD_pins : ∀ q ∈ pnD, q.1 ∈ pins := by decide
theorem ln1_ok {r : List Int} (h3 : ∀ i, 0 ≤ rAt r i ∧ rAt r i ≤ 2) : ∀ kv ∈ ln1 r, kv.1 ∈ pins ∧ kv.2 ∈ vals := by
  intro kv h
  unfold ln1 at h
  obtain ⟨q, hq, rfl⟩ := List.mem_map.mp h
  exact ⟨pnD_pins q hq, lett_vals (figN_lt h3)⟩
theorem ln1_len (r : List Int) : (ln1 r).length = 8 := rfl
theorem ln1_short {r : List Int} (h3 : ∀ i, 0 ≤ rAt r i ∧ rAt r i ≤ 2) (j : Nat) : Short ((ln1 r).take j) :=
  ⟨by rw [List.length_take, ln1_len]; omega, fun kv h => ln1_ok h3 kv (List.mem_of_mem_take h)⟩
theorem all_short {r : List Int} (h3 : ∀ i, 0 ≤ rAt r i ∧ rAt r i ≤ 2) {i j : Nat} (hi : i ≤ 2) : Short (ln1 r ++ ln2 i j) :=
  ⟨by rw [List.length_append, ln1_len]; have := (ln2_short (j := j) hi).1; omega, fun kv h => (List.mem_append.mp h).elim (ln1_ok h3 kv) ((ln2_short hi).2 kv)⟩
theorem lines8 (f0 f1 f2 f3 f4 f5 f6 f7 : Str) :
    (pn.map fun x => (linesOf (([("n", f0), ("nc", f1), ("nb", f2), ("nbc", f3), ("na", f4), ("nac", f5), ("nab", f6), ("nabc", f7)] : List Ln) ++ ln2 2 8) (Txt.lower (Txt.upper x))).map (·.2)) =
      ([[f0], [f1, "c"], [f2, "b"], [f3, "b", "c"], [f4, "a"], [f5, "a", "c"], [f6, "a", "b"], [f7, "a", "b", "c"]] : List (List Str)) := by kernel_rfl
/-- the table's answers -/
noncomputable def gAll (ls : List Ln) : AV → AV
  | .str x => .lst ((linesOf ls (Txt.lower (Txt.upper x))).map fun kv => .str kv.2)
  | d => d
theorem corners_eq (r : List Int) : (pn.map AV.str).map (gAll (ln1 r ++ ln2 2 8)) = (cornersF r).map clA := by
  have h := lines8 (lett (figN r 0)) (lett (figN r 2)) (lett (figN r 6)) (lett (figN r 8)) (lett (figN r 18)) (lett (figN r 20)) (lett (figN r 24)) (lett (figN r 26))
  have h2 := congrArg (List.map fun l : List Str => AV.lst (l.map AV.str)) h
  rw [List.map_map] at h2
  rw [List.map_map]
  refine Eq.trans ?_ h2
  apply List.map_congr_left
  intro x _
  show AV.lst _ = AV.lst _
  rw [List.map_map]
  rfl
end Mine
end -- PC

section -- PE
open PySem PySem.W PyProof.Rows PySem.Calls PyProof.V
set_option maxRecDepth 100000
set_option maxHeartbeats 1000000
namespace Mine
/-- the dict of places -/
noncomputable def pnDict : List (PyData × PyData) := pnD.map fun q => (PyData.str q.1, PyData.int (q.2 : Int))
theorem pn_keys : (pnDict.map fun d => keyA d.1) = pn.map AV.str := rfl
theorem pn_fst : pnD.map (·.1) = pn := rfl
theorem pn_get {i : Nat} {d : AV} (h : (pnDict.map fun d => keyA d.1)[i]? = some d) : ∃ q, pnD[i]? = some q ∧ pn[i]? = some q.1 ∧ d = .str q.1 := by
  rw [pn_keys, ← pn_fst, List.map_map, List.getElem?_map] at h
  cases e : pnD[i]? with
  | none => rw [e] at h; cases h
  | some q =>
    rw [e] at h
    refine ⟨q, rfl, ?_, (Option.some.inj h).symm⟩
    rw [← pn_fst, List.getElem?_map, e]; rfl
theorem pn_look : ∀ q ∈ pnD, lookD pnDict q.1 = some (.int (q.2 : Int)) ∧ q.2 ≤ 26 := by
  intro q hq
  simp only [pnD, List.mem_cons, List.not_mem_nil, or_false] at hq
  rcases hq with rfl | rfl | rfl | rfl | rfl | rfl | rfl | rfl <;> exact ⟨by rfl, by decide⟩
theorem item_fig {k : Int} (h0 : 0 ≤ k) (h2 : k ≤ 2) : Txt.item ("012" : Str) k = lett (3 + k.toNat) := by
  have : k = 0 ∨ k = 1 ∨ k = 2 := by omega
  rcases this with rfl | rfl | rfl <;> decide +kernel
theorem ln1_step {r : List Int} {i : Nat} {q : Str × Nat} (h : pnD[i]? = some q) : (ln1 r).take (i + 1) = (ln1 r).take i ++ [(q.1, lett (figN r q.2))] := by
  rw [List.take_add_one]
  unfold ln1
  rw [List.getElem?_map, h]
  rfl
theorem TD.re {w : World} {D : List (PyData × PyData)} {p : Addr} {X Y : List Addr} {t dx l : Addr} {ds : List AV} {h : Heap} (k : ∀ a ∈ Y, a ∈ X ∨ h.get? a = Option.none) (T : TD w D p X t dx l ds h) : TD w D p Y t dx l ds h := ⟨T.tab.re k, T.dict⟩
theorem sg_get {i ch : Nat} (h : ("abc" : Str).cps[i]? = some ch) : i ≤ 2 ∧ sgs[i]? = some (⟨#[ch]⟩ : Str) ∧ (⟨#[ch]⟩ : Str) ∈ vals := by
  have hi : i < 3 := (Array.getElem?_eq_some_iff.mp h).1
  have : i = 0 ∨ i = 1 ∨ i = 2 := by omega
  rcases this with rfl | rfl | rfl
  · have : ch = 97 := (Option.some.inj h).symm
    subst this; exact ⟨by omega, by decide +kernel, by decide +kernel⟩
  · have : ch = 98 := (Option.some.inj h).symm
    subst this; exact ⟨by omega, by decide +kernel, by decide +kernel⟩
  · have : ch = 99 := (Option.some.inj h).symm
    subst this; exact ⟨by omega, by decide +kernel, by decide +kernel⟩
noncomputable def pnOk (c x : Str) : Bool := (c == Txt.upper c) == false && (Builtin.Str.tooLong (Txt.upper c).length == false) && Nat.ble (x.length + (x.length + 1) * (Txt.upper c).length) 16777216
theorem pn_ok : (sgs.all fun c => pn.all fun x => pnOk c x) = true := by kernel_rfl
theorem pn_fine {c x : Str} (hc : c ∈ sgs) (hx : x ∈ pn) : (c == Txt.upper c) = false ∧ Builtin.Str.tooLong (Txt.upper c).length = false ∧ x.length + (x.length + 1) * (Txt.upper c).length ≤ 16777216 := by
  have h := List.all_eq_true.mp (List.all_eq_true.mp pn_ok c hc) x hx
  unfold pnOk at h
  rw [Bool.and_eq_true, Bool.and_eq_true] at h
  exact ⟨by simpa using h.1.1, by simpa using h.1.2, Nat.le_of_ble_eq_true h.2⟩
noncomputable def upOk (x : Str) : Bool := (Builtin.Str.tooLong (Txt.upper x).length == false) && Nat.ble (Txt.upper x).length 5592405 && pins.contains (Txt.lower (Txt.upper x))
theorem up_ok : (pn.all upOk) = true := by kernel_rfl
theorem up_fine {x : Str} (hx : x ∈ pn) : Builtin.Str.tooLong (Txt.upper x).length = false ∧ (Txt.upper x).length ≤ 5592405 ∧ Txt.lower (Txt.upper x) ∈ pins := by
  have h := List.all_eq_true.mp up_ok x hx
  unfold upOk at h
  rw [Bool.and_eq_true, Bool.and_eq_true] at h
  exact ⟨by simpa using h.1.1, Nat.le_of_ble_eq_true h.1.2, List.contains_iff_mem.mp h.2⟩
/-- the states of the loops -/
noncomputable def CInv (w : World) (p t dx l : Addr) (ls : Nat → List Ln) (x : Str) (e : AV) (C : Cx) (i : Nat) (I' : Heap → Prop) (ρ' : List (Str × AV)) : Prop :=
  I' = TD w pnDict p C.X t dx l ((ls i).map lineA) ∧ List.lookup ("table" : Str) ρ' = some (.at t) ∧ List.lookup ("places" : Str) ρ' = some (.at p) ∧ List.lookup x ρ' = some e
/-- after a turn of the inner loop -/
noncomputable def CMid (w : World) (p t dx l : Addr) (ls : List Ln) (ch : AV) (C : Cx) : Out → Prop
  | .next I' ρ' => I' = TD w pnDict p C.X t dx l (ls.map lineA) ∧ List.lookup ("table" : Str) ρ' = some (.at t) ∧ List.lookup ("places" : Str) ρ' = some (.at p) ∧ List.lookup ("letter" : Str) ρ' = some ch
  | .ret _ _ => False
section
variable {C : Cx} {n : Nat} {I : Heap → Prop} {ρ : List (Str × AV)}
theorem JSk_forC {K : Nat} {target iter : Expr} {body rest : List Stmt} {pos : Pos} {di : AV} {ds : List AV} {Post : Out → Prop} (Inv : Cx → Nat → (Heap → Prop) → List (Str × AV) → Prop) (hi : J C n I ρ iter di) (it : Itr C n I ρ di ds)
    (h0 : Inv C 0 I ρ)
    (turn : ∀ i d I' ρ', ds[i]? = some d → Inv C i I' ρ' → ∃ ρ₁, JA C n I' ρ' target d ρ₁ ∧ JSk K C n I' ρ₁ body (fun o => match o with | .next I'' ρ'' => Inv C (i + 1) I'' ρ'' | .ret I'' e => Post (.ret I'' e)))
    (after : ∀ I' ρ', Inv C ds.length I' ρ' → JSk K C n I' ρ' rest Post)
    (hs : ∀ v, foldedSetIterable iter C.env v = pure v := by intro _; rfl) : JSk K C n I ρ (.For target iter body [] pos :: rest) Post := JSk_for hi it (Inv C) h0 turn after hs
theorem JSk_nil {K : Nat} {Post : Out → Prop} (h : Post (.next I ρ)) : JSk K C n I ρ [] Post := JSk.of (JS_nil h)
theorem JSk_mono {K : Nat} {sts : List Stmt} {Post Post' : Out → Prop} (h : JSk K C n I ρ sts Post) (k : ∀ o, Post o → Post' o) : JSk K C n I ρ sts Post' :=
  ⟨fun s P hK Q E hN hR => h.run s P hK Q E (fun I' ρ' s' p => hN I' ρ' s' (k _ p)) fun I' ρ' d v s' p => hR I' ρ' d v s' (k _ p)⟩
theorem newW {t dx l p : Addr} (off : Off (newC C t dx l) t dx l) (hpF : p ∉ frA C.env) (hW : C.W = frA C.env ++ []) (pt : p ≠ t) (pd : p ≠ dx) (pl : p ≠ l) : p ∉ (newC C t dx l).W := by
  intro m
  rcases List.mem_cons.mp m with q | m
  · exact pt q
  rcases List.mem_cons.mp m with q | m
  · exact pd q
  rcases List.mem_cons.mp m with q | m
  · exact pl q
  rw [hW] at m
  exact notW hpF m
theorem calls_corners {r : List Int} (hr : r.length = 27) (h3 : ∀ i, 0 ≤ rAt r i ∧ rAt r i ≤ 2) : CallsB C (n + 4) I ρ (.ref 226) [.lst (r.map .int)] (.lst ((cornersF r).map clA)) := by
  refine' calls_pure (x := "rule") ?ho ?hcd ?hbind ?hkind ?hcn ?hco ?hgen ?hk ?hb
  case ho => (unfold HK fragOf; k_is)
  case hcd => (unfold HK fragOf; k_is)
  case hbind => exact fun _ => rfl
  case hkind => exact rfl
  case hcn => decide
  case hco => exact rfl
  case hgen => exact rfl
  case hk => exact rfl
  case hb =>
    intro L
    refine JS_dict (D := pnDict) (.loc rfl) rfl rfl (by decide) rfl rfl (by simp) (by decide) fun p hpX hpF hsm => ?_
    refine JS_new0 (.cell rfl rfl) hpF fun t dx l ft fd fl pt pd pl => ?_
    have off : Off (newC (callC C [] _ _ L 226 _) t dx l) t dx l := ⟨.tail _ (.tail _ (.head _)), ft, fd, fl⟩
    have hpW := newW off hpF rfl pt pd pl
    refine JS_forC (CInv C.w p t dx l (fun i => (ln1 r).take i) "rule" (.lst (r.map .int))) (di := .at p) (J_name rfl) (Itr_dict (D := pnDict) (fun h T => T.dict) hpW hsm) ⟨rfl, rfl, rfl, rfl⟩ ?_ ?_
    · rintro i d I' ρ₁ hd ⟨rfl, htab, hpl, hrule⟩
      obtain ⟨q, hq, hq2, rfl⟩ := pn_get hd
      have hm := List.mem_of_getElem? hq
      have hlk := pn_look q hm
      have hv := h3 (q.2 : Int)
      refine ⟨_, JA_name (.loc rfl), ?_⟩
      refine JS_exprE (JE_methD (d := .none) (ds' := ((ln1 r).take (i + 1)).map lineA) htab off hpF pl (JL_cons (J_name rfl) (JL_cons (J_cast (d' := .str (lett (figN r q.2))) (by rw [item_fig hv.1 hv.2]; rfl) (J_itemS J_str (J_rule (J_name hrule) (J_itemD (D := pnDict) (fun h T => T.dict) (J_name hpl) (J_name rfl) hlk.1) (by omega) (by have := hlk.2; omega) (by omega)) hv.1 (by have := hv.2; show _ < (3 : Int); omega) (by decide))) JL_nil)) ?_ (fm_add _) (fn_add _) (kp_add _)) noRef_none (JS_nil ⟨rfl, htab, hpl, hrule⟩)
      rw [ln1_step hq]
      exact calls_add (fun h T => T.tab) mem3 (ln1_short h3 i) (pnD_pins q hm) (lett_vals (figN_lt h3))
    · rintro I' ρ₁ ⟨rfl, htab, hpl, hrule⟩
      refine JS_forS (CInv C.w p t dx l (fun i => ln1 r ++ ln2 i 0) "places" (.at p)) (.loc rfl) (by decide +kernel) ⟨rfl, htab, hpl, hpl⟩ ?_ ?_
      · rintro i ch I' ρ₂ u hch hu ⟨rfl, htab, hpl, hrule⟩
        obtain ⟨hi, hsg, hvl⟩ := sg_get hch
        have hcm := List.mem_of_getElem? hsg
        refine JSk_forC (CInv C.w p t dx l (fun j => ln1 r ++ ln2 i j) "letter" (.tok ⟨#[ch]⟩ u)) (di := .at p) (J_name hpl) (Itr_dict (D := pnDict) (fun h T => T.dict) hpW hsm) ⟨rfl, htab, hpl, rfl⟩ ?_ ?_
        · rintro j d I' ρ₃ hd ⟨rfl, htab, hpl, hlet⟩
          obtain ⟨q, hq, hq2, rfl⟩ := pn_get hd
          have hxm := List.mem_of_getElem? hq2
          obtain ⟨f1, f2, f3⟩ := pn_fine hcm hxm
          have hst := ln2_step hsg hq2
          refine ⟨_, JA_name (.loc rfl), ?_⟩
          refine JSk_ifC (Mid := CMid C.w p t dx l (ln1 r ++ ln2 i (j + 1)) (.tok ⟨#[ch]⟩ u)) (JB_inS (J_untok (J_name hlet)) (J_name rfl)) (fun b => ?_) (fun b => ?_) (fun I' ρ' h => JSk_nil h) (fun _ _ h => h.elim)
          · have hdr : dress ⟨#[ch]⟩ q.1 = [(Txt.replace q.1 ⟨#[ch]⟩ (Txt.upper ⟨#[ch]⟩), ⟨#[ch]⟩)] := by
              unfold dress; rw [show has ⟨#[ch]⟩ q.1 = true from b]; rfl
            have hok := dress_mem hcm hxm (by rw [hdr]; exact .head _)
            refine JSk_exprE (JEk_methD (d := .none) (ds' := (ln1 r ++ ln2 i (j + 1)).map lineA) htab off hpF pl (Jk_replace rfl hlet hu (Nat.le_refl _) f1 f2 f3) (J_untok (J_name hlet)) ?_ (fm_add _) (fn_add _) (kp_add _)) noRef_none (JSk_nil ⟨rfl, htab, hpl, hlet⟩)
            rw [hst, hdr, ← List.append_assoc]
            exact calls_add (fun h T => T.tab) mem3 (all_short h3 hi) hok.1 hok.2
          · have hdr : dress ⟨#[ch]⟩ q.1 = [] := by
              unfold dress; rw [show has ⟨#[ch]⟩ q.1 = false from b]; rfl
            refine JSk_nil ⟨?_, htab, hpl, hlet⟩
            rw [hst, hdr, List.append_nil]
        · rintro I' ρ₃ ⟨rfl, htab, hpl, hlet⟩
          refine JSk_nil ⟨?_, htab, hpl, hpl⟩
          show _ = TD _ _ _ _ _ _ _ ((ln1 r ++ ln2 (i + 1) 0).map lineA)
          rw [ln2_next hsg]; rfl
      · rintro I' ρ₂ ⟨rfl, htab, hpl, hrule⟩
        have e3 : ln2 (Array.size ("abc" : Str).cps) 0 = ln2 2 8 := ln2_next (i := 2) (c := "c") rfl
        have hS : Short (ln1 r ++ ln2 2 8) := all_short h3 (by omega)
        dsimp only
        rw [e3]
        refine JS_ret (J_cast (d := .lst (((pnDict.map fun d => keyA d.1).filter fun _ => true).map (gAll (ln1 r ++ ln2 2 8)))) ?_ (J_comp2 (I2 := fun X' => TD C.w pnDict p X' t dx l ((ln1 r ++ ln2 2 8).map lineA)) (fun h X' T m => T.re m) (fun _ => TD.st) (x := "name") (di := .at p) (p := fun _ => true) (g := gAll (ln1 r ++ ln2 2 8)) (ρ' := [("table", .at t)]) (J_name hpl) (Itr_dict (D := pnDict) (fun h T => T.dict) hpW hsm) (by decide) (cap_cons htab ⟨.inl rfl, .inl rfl, rfl, rfl⟩ cap_nil) ?_)) rfl
        · rw [filter_true, pn_keys, corners_eq]
        · intro d hd c' X'
          rw [pn_keys] at hd
          obtain ⟨x, hx, rfl⟩ := List.mem_map.mp hd
          obtain ⟨f1, f2, f3⟩ := up_fine hx
          exact ⟨JT_nil, fun _ => J_methT (fun h T => T.tab) rfl (JL_cons (J_meth0 (J_name rfl) m_upper (c_upper f1) rfl rfl) JL_nil) (calls_get_all (fun h T => T.tab) hS f2 f3) (fm_all _) (fn_all _) (kp_all _)⟩
end
end Mine
end -- PE

section -- PW
open PySem PySem.W PyProof.Rows PySem.Calls
namespace Mine
theorem ways0 : ∀ m0 ∈ figs3, ∀ m1 ∈ figs3, ∀ m2 ∈ figs3, ∀ m3 ∈ figs3, m0 ≤ m1 → m1 ≤ m2 → m2 ≤ m3 →
    medL [0, 1, 2, 2, m0, m1, m2, m3] = max m1 (min m2 1) ∧ medH [m0, m1, m2, m3, 0, 0, 1, 2] = max m1 (min m2 1) ∧ medH [m0, m1, m2, m3, 0, 1, 2] = max m1 (min m2 1) := by decide +kernel
noncomputable def tripOk (t : Int × Int × Int) : Bool :=
  wts.contains t.1 && wts.contains t.2.1 && wts.contains t.2.2 && ints27.contains (2 * t.1) && ints27.contains (2 * t.1 + 2 * t.2.1) && (((0 : Int).fdiv t.1).fmod 3 == 0) && (((2 * t.1).fdiv t.2.1).fmod 3 == 0) && (((2 * t.1 + 2 * t.2.1).fdiv t.2.2).fmod 3 == 0)
theorem trip_ok : triples.all tripOk = true := by decide +kernel
theorem ways_ok {r : List Int} (hf : Fig r) (h : Honest r) : ∀ t ∈ triples, wayOk r t := by
  rintro ⟨t, m, l⟩ ht
  have ok := List.all_eq_true.mp trip_ok _ ht
  unfold tripOk at ok
  simp only [Bool.and_eq_true] at ok
  obtain ⟨⟨⟨⟨⟨⟨⟨o1, o2⟩, o3⟩, o4⟩, o5⟩, o6⟩, o7⟩, o8⟩ := ok
  have z1 := honest_line hf h (List.contains_iff_mem.mp o1) (show (0 : Int) ∈ ints27 by decide) o6 (show (2 : Int) ∈ figs3 by decide)
  have z2 := honest_line hf h (List.contains_iff_mem.mp o2) (List.contains_iff_mem.mp o4) o7 (show (2 : Int) ∈ figs3 by decide)
  have z3 := honest_line hf h (List.contains_iff_mem.mp o3) (List.contains_iff_mem.mp o5) o8 (show (2 : Int) ∈ figs3 by decide)
  have z4 := honest_line hf h (List.contains_iff_mem.mp o2) (List.contains_iff_mem.mp o4) o7 (show (1 : Int) ∈ figs3 by decide)
  rw [show (0 : Int) + 2 * t = 2 * t by omega] at z1
  rw [show 2 * t + 1 * m = 2 * t + m by omega] at z4
  have i1 := Int.le_max_left (rAt r 0) (min (rAt r (2 * t)) 2)
  have i2 := Int.le_max_left (rAt r (2 * t)) (min (rAt r (2 * t + 2 * m)) 2)
  have i3 := Int.le_max_left (rAt r (2 * t + 2 * m)) (min (rAt r (2 * t + 2 * m + 2 * l)) 2)
  rw [← z1] at i1
  rw [← z2] at i2
  rw [← z3] at i3
  have k := ways0 _ (hf.mem 0) _ (hf.mem (2 * t)) _ (hf.mem (2 * t + 2 * m)) _ (hf.mem (2 * t + 2 * m + 2 * l)) i1 i2 i3
  unfold wayOk
  dsimp only
  rw [z4]
  exact k
end Mine
end -- PW

section -- PV
open PySem PySem.W PyProof.Rows PySem.Calls PyProof.V
set_option maxRecDepth 100000
set_option maxHeartbeats 1000000
namespace Mine
/-- what is added to the rule -/
noncomputable def extraF (sc : List Int) : Int := ((sc.take 8).map fun k => k.fdiv 144).sum
/-- the rule -/
noncomputable def ruleF (said : List Int) (ex : Int) : List Int := ints27.map fun x => (rAt said x + ex.fdiv (3 ^ x.toNat)).fmod 3
theorem ruleF_len (said : List Int) (ex : Int) : (ruleF said ex).length = 27 := rfl
theorem ruleF_fig (said : List Int) (ex : Int) : Fig (ruleF said ex) := by
  intro i
  have key : ∀ a ∈ ruleF said ex, 0 ≤ a ∧ a ≤ 2 := by
    intro a ha
    unfold ruleF at ha
    obtain ⟨x, _, rfl⟩ := List.mem_map.mp ha
    rw [Int.fmod_eq_emod_of_nonneg _ (by decide)]
    omega
  unfold rAt
  rw [List.getD_eq_getElem?_getD]
  cases e : (ruleF said ex)[i.toNat]? with
  | none => exact ⟨by decide, by decide⟩
  | some a => exact key a (List.mem_of_getElem? e)
theorem figs_lmin : ∀ {l : List Int}, (∀ a ∈ l, 0 ≤ a ∧ a ≤ 2) → 0 ≤ lmin l ∧ lmin l ≤ 2
  | [], _ => by decide
  | [a], h => h a (.head _)
  | a :: b :: l, h => by
    have h1 := h a (.head _)
    have h2 := figs_lmin (l := b :: l) fun c m => h c (.tail _ m)
    unfold lmin
    omega
theorem figs_lmax : ∀ {l : List Int}, (∀ a ∈ l, 0 ≤ a ∧ a ≤ 2) → 0 ≤ lmax l ∧ lmax l ≤ 2
  | [], _ => by decide
  | [a], h => h a (.head _)
  | a :: b :: l, h => by
    have h1 := h a (.head _)
    have h2 := figs_lmax (l := b :: l) fun c m => h c (.tail _ m)
    unfold lmax
    omega
theorem row_fig3 : (ints27.all fun x => idx6.all fun k => figs3.contains (rowAt x k)) = true := by decide +kernel
theorem readAt_fig {cs : List (List Nat)} (h6 : ∀ c ∈ cs, ∀ i ∈ c, i < 6) {x : Int} (hx : x ∈ ints27) : 0 ≤ readAt cs x ∧ readAt cs x ≤ 2 := by
  unfold readAt
  refine figs_lmax fun a ha => ?_
  rcases List.mem_cons.mp ha with rfl | ha
  · exact ⟨by decide, by decide⟩
  · obtain ⟨c, hc, rfl⟩ := List.mem_map.mp ha
    refine figs_lmin fun a ha => ?_
    obtain ⟨i, hi, rfl⟩ := List.mem_map.mp ha
    exact of_mem3 (List.contains_iff_mem.mp (List.all_eq_true.mp (List.all_eq_true.mp row_fig3 x hx) i (idx6_mem (h6 c (List.mem_filter.mp hc).1 i hi))))
/-- nothing added: the rule is what was read -/
theorem ruleF_zero {cs : List (List Nat)} (h6 : ∀ c ∈ cs, ∀ i ∈ c, i < 6) : ruleF (readF cs) 0 = readF cs := by
  show ints27.map _ = ints27.map _
  apply List.map_congr_left
  intro x hx
  rw [readF_at hx, Int.zero_fdiv, Int.add_zero]
  have := readAt_fig h6 hx
  rw [Int.fmod_eq_emod_of_nonneg _ (by decide)]
  omega
theorem pow3 : ∀ i ∈ List.range 27, (3 : Int) ^ i ≠ 0 ∧ ((3 : Int) ^ i).natAbs < 2 ^ 64 := by decide +kernel
noncomputable def gEx : AV → AV
  | .int k => .int (k.fdiv 144)
  | d => d
noncomputable def gRule (said : List Int) (ex : Int) : AV → AV
  | .int x => .int ((rAt said x + ex.fdiv (3 ^ x.toNat)).fmod 3)
  | d => d
theorem at_deeds (w : World) : nsIn (HK w.params) mainGlobals "_law_deeds" = some (some (.ref 211)) := by kernel_rfl
theorem at_read (w : World) : nsIn (HK w.params) mainGlobals "_law_read" = some (some (.ref 216)) := by kernel_rfl
theorem at_lies (w : World) : nsIn (HK w.params) mainGlobals "_law_lies" = some (some (.ref 221)) := by kernel_rfl
theorem at_corners (w : World) : nsIn (HK w.params) mainGlobals "_law_corners" = some (some (.ref 226)) := by kernel_rfl
theorem at_ways (w : World) : nsIn (HK w.params) mainGlobals "_law_ways" = some (some (.ref 233)) := by kernel_rfl
theorem at_law (w : World) : nsIn (HK w.params) mainGlobals "law" = some (some (.ref 238)) := by kernel_rfl
theorem kp_deeds (w : World) : keepIn (HK w.params) (.ref 211) = true := by kernel_rfl
theorem kp_read (w : World) : keepIn (HK w.params) (.ref 216) = true := by kernel_rfl
theorem kp_lies (w : World) : keepIn (HK w.params) (.ref 221) = true := by kernel_rfl
theorem kp_corners (w : World) : keepIn (HK w.params) (.ref 226) = true := by kernel_rfl
theorem kp_ways (w : World) : keepIn (HK w.params) (.ref 233) = true := by kernel_rfl
theorem cls3 (ls : List Ln) : (cls ls).length = 3 := rfl
section
variable {C : Cx} {n : Nat} {I : Heap → Prop} {ρ : List (Str × AV)}
theorem J_eqIs {l r : Expr} {pos : Pos} {a b : List Int} (hl : J C n I ρ l (.lst (a.map .int))) (hr : J C n I ρ r (.lst (b.map .int))) (hm : behindInMarks .Eq r = false := by rfl) : J C n I ρ (.Compare l [.Eq] [r] pos) (.bool (decide (a = b))) :=
  J_cmp hl hr (fun s x y Q E P r₁ r₂ hQ => by
    cases r₁ with
    | lst na ea ra =>
    cases r₂ with
    | lst nb eb rb =>
    exact eq_intsK ⟨_, ea, rfl, _, rfl⟩ ra.ints ⟨_, eb, rfl, _, rfl⟩ rb.ints (by have := P.ok.units; have := cLine_is; omega) (hQ _ _ (keeps_refl s) (.bool _))) hm
theorem JB_neB {l r : Expr} {pos : Pos} {a b : Bool} (hl : J C n I ρ l (.bool a)) (hr : J C n I ρ r (.bool b)) (hm : behindInMarks .NotEq r = false := by rfl) : JB C n I ρ (.Compare l [.NotEq] [r] pos) (a != b) :=
  JB_cmp hl hr (fun s x y Q E P r₁ r₂ hQ => by cases r₁; cases r₂; exact ne_bool (hQ _ _ (keeps_refl s) (.bool _))) hm
theorem calls_law {sc : List Int} (hsc : sc.length ≤ 1000) : CallsB C (n + 5) I ρ (.ref 238) [.lst (sc.map .int)] (.bool true) := by
  refine' calls_pure (x := "script") ?ho ?hcd ?hbind ?hkind ?hcn ?hco ?hgen ?hk ?hb
  case ho => (unfold HK fragOf; k_is)
  case hcd => (unfold HK fragOf; k_is)
  case hbind => exact fun _ => rfl
  case hkind => exact rfl
  case hcn => decide
  case hco => exact rfl
  case hgen => exact rfl
  case hk => exact rfl
  case hb =>
    intro L
    have hL : Lns 14 (deedsF sc) := lns_at sc 8
    have hcl := cls_lt hL
    have h3 := cls3 (deedsF sc)
    have h6 : ∀ c ∈ cls (deedsF sc), ∀ i ∈ c, i < 6 := fun c hc => (hcl c hc).1
    refine JS_assignT (J_callF (JL_cons (J_name rfl) JL_nil) (calls_deeds hsc) (at_deeds _) (kp_deeds _)) (JA_tup (JAs_cons (JA_name (.loc rfl)) (JAs_cons (JA_name (.loc rfl)) JAs_nil)) rfl) ?_
    generalize cls (deedsF sc) = cs at hcl h3 h6 ⊢
    refine JS_assign (d := .lst ((readF cs).map .int)) (J_callF (JL_cons (J_name rfl) JL_nil) (calls_read h6 (by omega) fun c hc => by have := (hcl c hc).2; omega) (at_read _) (kp_read _)) (.cell rfl rfl) ?_
    refine JS_assign (d := .int (extraF sc)) (J_callB (JL_cons (J_cast (d := .lst ((((sc.take 8).map AV.int).filter fun _ => true).map gEx)) (d' := .lst (((sc.take 8).map fun k => k.fdiv 144).map .int)) ?_ (J_comp (x := "n") (p := fun _ => true) (g := gEx) (ρ' := []) (J_cast (d' := .lst ((sc.take 8).map .int)) (by rw [List.map_take]) (J_sliceU (k := 8) (J_name rfl) J_int (by rw [List.length_map]; exact hsc))) Itr_lst ?_ cap_nil ?_)) JL_nil) calls_sum (no_sum _) bt_sum) (.cell rfl rfl) ?_
    · rw [filter_true, List.map_map, List.map_map]; rfl
    · rw [List.length_map]; exact Nat.le_trans (List.length_take_le ..) (by omega)
    · intro d hd c' X'
      obtain ⟨k, hk, rfl⟩ := List.mem_map.mp hd
      exact ⟨JT_nil, fun _ => J_divK (J_name rfl) J_int (by decide) (by decide)⟩
    generalize hex : extraF sc = ex
    refine JS_assignC (x := "x") (di := .rng (27 : Nat)) (ds := rangeD 27) (p := fun _ => true) (g := gRule (readF cs) ex) (ρ' := [("extra", .int ex), ("said", .lst ((readF cs).map .int))]) (J_range J_int) (Itr_rng (by decide)) (by rw [rangeD_length]; decide) (cap_cons rfl ⟨.inl rfl, .inl rfl, rfl, rfl⟩ (cap_cons rfl ⟨.inl rfl, .inl rfl, rfl, rfl⟩ cap_nil)) ?_ (.loc rfl) ?_
    · intro d hd c' X'
      obtain ⟨i, hi, rfl⟩ := List.mem_map.mp hd
      have hp := pow3 i hi
      have hi : i < 27 := List.mem_range.mp hi
      refine ⟨JT_nil, fun _ => ?_⟩
      exact J_mod (J_add (J_rule (J_name rfl) (J_name rfl) (by omega) (by show (i : Int) < (27 : Int); omega) (show 27 < 1000 by decide)) (J_divK (J_name rfl) (J_pow J_int (J_name rfl) (by omega) (by omega) (by decide)) (by rw [Int.toNat_natCast]; exact hp.1) (by rw [Int.toNat_natCast]; exact hp.2))) J_int (by decide)
    have er : ((rangeD 27).filter fun _ => true).map (gRule (readF cs) ex) = (ruleF (readF cs) ex).map .int := by
      rw [filter_true, rangeD_ints, List.map_map]
      show _ = (ints27.map _).map _
      rw [List.map_map]; rfl
    rw [er]
    have hlen := ruleF_len (readF cs) ex
    have hfig := ruleF_fig (readF cs) ex
    have hzero : ex = 0 → Honest (ruleF (readF cs) ex) := fun e => by rw [e, ruleF_zero h6]; exact honest_read h6
    generalize ruleF (readF cs) ex = r at hlen hfig hzero ⊢
    have hone : ((lies r).1 == 0) = (lies r).2 := by
      rw [Bool.eq_iff_iff, beq_iff_eq]; exact honest_one hfig
    have htold : decide (readF (cornersF r) = r) = (lies r).2 := by
      rw [Bool.eq_iff_iff, decide_eq_true_iff, honest_two]; exact told_iff hlen hfig
    have hhon := honest_two r
    refine JS_assignT (J_callF (JL_cons (J_name rfl) JL_nil) (calls_lies hlen hfig) (at_lies _) (kp_lies _)) (JA_tup (JAs_cons (JA_name (.loc rfl)) (JAs_cons (JA_name (.loc rfl)) JAs_nil)) rfl) ?_
    refine JS_assign (d := .bool (decide (readF (cornersF r) = r))) (J_eqIs (J_callF (JL_cons (J_callF (JL_cons (J_name rfl) JL_nil) (calls_corners hlen hfig) (at_corners _) (kp_corners _)) JL_nil) (calls_read (corners_lt hfig) (by show 8 ≤ 100; decide) ?_) (at_read _) (kp_read _)) (J_name rfl)) (.loc rfl) ?_
    · intro c hc
      simp only [cornersF, List.mem_cons, List.not_mem_nil, or_false] at hc
      rcases hc with rfl | rfl | rfl | rfl | rfl | rfl | rfl | rfl <;> exact Nat.le_of_ble_eq_true rfl
    rw [hone, htold]
    generalize (lies r).2 = b at hhon ⊢
    refine JS_if (Mid := fun o => ∃ ρ'', o = .next (fun _ => True) ρ'' ∧ List.lookup ("rule" : Str) ρ'' = some (.lst (r.map .int)) ∧ List.lookup ("honest" : Str) ρ'' = some (.bool b) ∧ List.lookup ("extra" : Str) ρ'' = some (.int ex))
      (JB_cast (c := false) ?_ (JB_or3 (JB_not (JB_plain (J_name (d := .bool true) rfl))) (JB_neB (J_name (d := .bool b) rfl) (J_name (d := .bool b) rfl)) (JB_neB (J_name (d := .bool b) rfl) (J_name (d := .bool b) rfl)))) (fun h => nomatch h) (fun _ => JS_nil ⟨_, rfl, rfl, rfl, rfl⟩) ?_ (fun _ _ ⟨_, h, _⟩ => nomatch h)
    · cases b <;> rfl
    · rintro I' ρ₂ ⟨ρ'', e, h1, h2, h3⟩
      cases e
      refine JS_if (Mid := fun o => match o with | .next I' ρ'' => I' = (fun _ => True) ∧ b = true ∧ List.lookup ("rule" : Str) ρ'' = some (.lst (r.map .int)) | .ret _ d => d = .bool true) (JB_not (JB_plain (J_name h2))) (fun hb => ?_) (fun hb => ?_) ?_ (fun _ _ h => h)
      · refine JS_ret (J_cast ?_ (J_neI (J_name h3) J_int)) rfl
        have hb0 : b = false := by simpa using hb
        have : ex ≠ 0 := fun e => by
          have := hhon.mpr (hzero e)
          rw [hb0] at this; cases this
        simpa using this
      · exact JS_nil ⟨rfl, by simpa using hb, h1⟩
      · rintro I' ρ₃ ⟨rfl, hb, h1⟩
        exact JS_ret (J_callF (JL_cons (J_name h1) JL_nil) (calls_ways hlen (ways_ok hfig (hhon.mp hb))) (at_ways _) (kp_ways _)) rfl
end
end Mine
end -- PV

section -- PZ
open PySem PySem.W PyProof.Rows PySem.Calls PyProof.V
set_option maxRecDepth 100000
set_option maxHeartbeats 8000000
namespace Mine
noncomputable def noScope : Scope := { kind := .function, names := [], isGenerator := false, isCoroutine := false }
/-- where law is called -/
noncomputable abbrev topC (w : World) (mean : ExcName → Option Value) (mg mb : Str → Option Value) (h : Heap) : Cx := { w := w, mean := mean, mg := mg, mb := mb, H0 := h, A := callerA, env := envOfC "law" noScope 0 0 .none, X := [], W := [] }
theorem topPre {w : World} {mean : ExcName → Option Value} {mg mb : Str → Option Value} {h : Heap} {n : Nat} (hn : n ≤ 100) (K : (HK w.params).In h) (T : Top HV LS mean mg mb h) : Pre (topC w mean mg mb h) n (fun _ => True) [] h := by
  refine ⟨⟨K, T, rfl, ?_, ?_, rfl, rfl, rfl, (fun _ m => nomatch m), (fun _ m => nomatch m)⟩, Kp.refl _, (fun _ m => nomatch m), trivial, fun _ _ _ h => h, fun _ _ e => nomatch e⟩
  · show 301 + n ≤ 500; omega
  · show 4 + 8 * n ≤ 5000; omega
theorem law_entry {w : World} {mean : ExcName → Option Value} {mg mb : Str → Option Value} {s : Shared} {a fa : Addr} {vs : List Value} {ns : List Int} {Q : Value → Shared → Prop} {E : Value → Shared → Prop} (K : (HK w.params).In s.heap) (T : Top HV LS mean mg mb s.heap) (hmg : mg "law" = some (.ref fa))
    (hL : ∃ m, s.heap.get? a = some (lstO vs m)) (hI : IntsAre vs ns) (hn : ns.length ≤ 63) (hQ : ∀ s', Keeps s s' → Q (.bool true) s') : wpAny (model PR w) callerA (call (.ref fa) [.ref a]) Q E s := by
  have e := mg_of K T.g (at_law w)
  rw [hmg] at e
  cases e
  obtain ⟨m, hL⟩ := hL
  refine (calls_law (C := topC w mean mg mb s.heap) (n := 0) (I := fun _ => True) (ρ := []) (sc := ns) (by omega)).run s _ Q E (topPre (by decide) K T) (.cons (.lst (fun m => nomatch m) hL (RdAll.ofInts hI)) .nil) fun v s' k r => ?_
  cases r
  exact hQ s' k
theorem well_list {P : Params} {h : Heap} {a : Addr} {vs : List Value} {ns : List Int} (w : Well P h (.ref a) (ofPy (.list (ns.map .int)))) (hL : h.IsList a vs.toArray) : ∃ m, h.get? a = some (lstO vs m) := by
  unfold ofPy at w
  cases w with
  | list e _ =>
  obtain ⟨o, ho, hc, n, hd⟩ := hL
  rw [e] at ho
  cases ho
  have q := congrArg (fun d => match d with | Data.seq v _ => v.toList | _ => []) hd
  simp at q
  rw [← q]
  exact ⟨_, e⟩
theorem law_end {cl : Str → Option Addr} {mean : ExcName → Option Value} {ns : List Int} {s s' : Shared} (hg : s.gens = #[]) (k : Keeps s s') : GoodWG PySem.Challenge.rw_rs0151_01.row.claim cl mean [ofPy (.list (ns.map .int))] s (.ok (.ret (.bool true))) s' := by
  obtain ⟨h', tk, rfl, k⟩ := k
  refine GoodW.toG ⟨.inl ⟨_, .bool true, [], rfl, fun _ => rfl, .bool true, ?_, fun _ => ⟨List.nodup_nil, fun _ h => nomatch h⟩⟩, k, rfl, hg⟩
  wrow_post
theorem all : PySem.Challenge.rw_rs0151_01.Holds := hd (by
  intro w s₀ s₁ mg mb G Y fa o pm cd doc dV kV ho hdd hcd hD hmg hg args vals as hpre hlay hrd hwl hlo
  have KX := kIn_of Y
  have hmg : mg "law" = some (.ref fa) := hmg
  clear hdd hcd hD ho
  refine Ground.open G ?_
  intro T B D TE TW
  clear B D TE TW
  wrow_args hpre hlay hrd hwl hlo
  rename_i hcond _
  refine law_entry KX T hmg (well_list ‹Well _ _ _ _› ‹Heap.IsList _ _ _›) ‹IntsAre _ _› (by omega) fun s' k => law_end hg k)
end Mine
end -- PZ

theorem PySem.Challenge.cw_rs0151_01_holds : PySem.Challenge.rw_rs0151_01.Holds :=
  Mine.all
