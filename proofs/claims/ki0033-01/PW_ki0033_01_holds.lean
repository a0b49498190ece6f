import PyProof.Rows.All
import Wide.All
import OpenK.AllK
import Wide.FinOn
import PySem.Challenge.RW_ki0033_01
open PySem PySem.W PyProof.Rows
set_option Elab.async false
set_option rowWalk.seconds 0
set_option maxRecDepth 100000
set_option maxHeartbeats 8000000
namespace Mine
open_top hd for PySem.Challenge.rw_ki0033_01
end Mine
/- part: FnAttr -/
namespace Mine
open PySem PySem.W PyProof.Rows PySem.Calls PySem.Builtin PySem.Builtin.ObjectAttr

theorem lk_fn_sa : typeLookup (.type "function") "__setattr__" = pure (some (.builtin "object.__setattr__")) := by rw [typeLookup_type, builtinLookup_eq_fast]; kernel_rfl
theorem lk_fn_ga : typeLookup (.type "function") "__getattribute__" = pure (some (.builtin "object.__getattribute__")) := by rw [typeLookup_type, builtinLookup_eq_fast]; kernel_rfl
theorem lk_fn_hook : typeLookup (.type "function") "__getattr__" = pure none := by rw [typeLookup_type, builtinLookup_eq_fast]; kernel_rfl
theorem lk_fn_span : typeLookup (.type "function") "span" = pure none := by rw [typeLookup_type, builtinLookup_eq_fast]; kernel_rfl
theorem lk_fn_search : typeLookup (.type "function") "search" = pure none := by rw [typeLookup_type, builtinLookup_eq_fast]; kernel_rfl
theorem lk_fn_bool : typeLookup (.type "function") "__bool__" = pure none := by rw [typeLookup_type, builtinLookup_eq_fast]; kernel_rfl
theorem lk_fn_len : typeLookup (.type "function") "__len__" = pure none := by rw [typeLookup_type, builtinLookup_eq_fast]; kernel_rfl
theorem mro_fn : mroOf (.type "function") = pure [.type "function", .type "object"] := by kernel_rfl
theorem slot_fn_sa : Slot "function" "__setattr__" "object.__setattr__" :=
  Slot.of (owner := "object") (n := "__setattr__") lk_fn_sa (by decide +kernel) (by decide +kernel) (by decide +kernel) (.inl (by decide +kernel)) (by kernel_rfl)
theorem slot_fn_ga : Slot "function" "__getattribute__" "object.__getattribute__" :=
  Slot.of (owner := "object") (n := "__getattribute__") lk_fn_ga (by decide +kernel) (by decide +kernel) (by decide +kernel) (.inl (by decide +kernel)) (by kernel_rfl)
theorem entry_sa : entryFor table "object.__setattr__" = some Builtin.«object.__setattr__» := entryFor_of_tree (by kernel_rfl)
theorem entry_ga : entryFor table "object.__getattribute__" = some Builtin.«object.__getattribute__» := entryFor_of_tree (by kernel_rfl)
theorem refuse_fn (self : Value) : refuseLoop self "__setattr__" [.type "function", .type "object"] = pure () := by
  kernel_rfl

section
variable {prog : Program} {w : World} {A : Around} {E : Value → Shared → Prop} {h : Heap} {g : Array GenState} {d : Drawn} {t : Nat} {os : OsState} {f : Addr} {o : Obj} {name : Str} {v : Value}
theorem fn_store_entry {tk : Tok} {Q : Fin → Shared → Prop} (hx : h.get? f = some o) (hc : o.cls = .type "function") (hnc : ∀ c, o.data ≠ .cls c) (hdn : o.dict = none)
    (hB : typeLookup (.type "function") name = pure none)
    (hq : ∀ h' tk', h'.get? f = some { o with dict := some h.objs.size } → h'.Ns h.objs.size (fun y => if y = name then some v else none) → (∀ b ob, b ≠ f → h.get? b = some ob → h'.get? b = some ob) → Q (.done (.ret .none)) ⟨h', g, d, tk', os⟩) :
    wpAny (model prog w) A (Builtin.«object.__setattr__» ⟨[.ref f, .str name tk, v], []⟩) Q E ⟨h, g, d, t, os⟩ := by
  have hpass := refuse_fn (.ref f)
  have hT : (⟨h, g, d, t, os⟩ : Shared).TypeIs (.ref f) "function" := ⟨o, hx, hc⟩
  have hm := mro_fn
  unfold Builtin.«object.__setattr__»
  repeat (first | rw [refuse_eq] | (rw [hpass]) | wp_step)
  have hthd : (!true || !typeHasDict (.type "function")) = false := by decide +kernel
  have hfin : finalisedInACycleAlone "function" = false := by decide +kernel
  obtain ⟨oc, od, odt, osl⟩ := o
  cases hc
  cases hdn
  simp only [hthd, Bool.false_eq_true, if_false]
  have hx₁ : (h.push { cls := .type "dict", data := .dict #[] }).get? f = some ⟨.type "function", none, odt, osl⟩ := Heap.get?_push_of_some _ hx
  have hxs : f ≠ h.objs.size := Nat.ne_of_lt (Heap.lt_size hx)
  · refine wpAny_bind (wpAny_alloc' ?_)
    refine wpAny_bind (wpAny_update' hx₁ ?_)
    unfold dictMade
    simp only [hfin, Bool.false_eq_true, if_false]
    refine wpAny_pure ?_
    have hgd : ((h.push { cls := .type "dict", data := .dict #[] }).update f fun o => { cls := o.cls, dict := some h.objs.size, data := o.data, slots := o.slots }).get? h.objs.size
        = some { cls := .type "dict", data := .dict #[] } :=
      (Heap.get?_update_ne _ _ _ _ hxs.symm).trans (Heap.get?_push_at rfl rfl)
    have hnd : ((h.push { cls := .type "dict", data := .dict #[] }).update f fun o => { cls := o.cls, dict := some h.objs.size, data := o.data, slots := o.slots }).Ns h.objs.size (fun _ => none) :=
      ⟨_, #[], _, hgd, rfl, fun e he => absurd he (by simp), fun _ => rfl⟩
    show wpAny _ _ (storeInDict h.objs.size (.str name tk) name v) _ _ _
    unfold storeInDict newKeyGuard
    refine wpAny_bind (wpAny_pure (wpAny_bind (wpAny_nsSet1 (Heap.Ns1.of_empty hnd) fun h' hn' hs => ?_)))
    obtain ⟨oD, esD, epD, hoD, hdD, hcD⟩ := hn'.count (Within.cons name v Within.nil)
    refine wpAny_bind (wpAny_lookBehind hoD (by rw [hdD]; exact pastItsLine_dict (Nat.le_trans hcD (by rw [List.length_cons, List.length_nil, sizeLine_eq]; omega))) ?_)
    wp_walk
    refine hq h' _ ?_ hn'.ns (fun b ob hbx hb => ?_)
    · refine (hs.2 f hxs).trans (Heap.get?_update_self _ hx₁ ?_)
      have hfr := (Heap.get?_some_iff.mp hx).2
      cases odt <;> first | rfl | exact hfr
    · exact (hs.2 b (Nat.ne_of_lt (Heap.lt_size hb))).trans ((Heap.get?_update_ne _ _ _ _ hbx).trans (Heap.get?_push_of_some _ hb))

theorem args_sa (a b c : Value) : argsOk "object.__setattr__" ⟨[a, b, c], []⟩ := by unfold argsOk; kernel_rfl
theorem args_ga (a b : Value) : argsOk "object.__getattribute__" ⟨[a, b], []⟩ := by unfold argsOk; kernel_rfl

theorem fn_store {Q : Unit → Shared → Prop} (hx : h.get? f = some o) (hc : o.cls = .type "function") (hnc : ∀ c, o.data ≠ .cls c) (hdn : o.dict = none)
    (hB : typeLookup (.type "function") name = pure none)
    (hq : ∀ h' tk', h'.get? f = some { o with dict := some h.objs.size } → h'.Ns h.objs.size (fun y => if y = name then some v else none) → (∀ b ob, b ≠ f → h.get? b = some ob → h'.get? b = some ob) → Q () ⟨h', g, d, tk', os⟩) :
    wpAny (model prog w) A (setAttr (.ref f) name v) Q E ⟨h, g, d, t, os⟩ := by
  have hb := slot_fn_sa.bind (.ref f)
  have hl := lk_fn_sa
  have hT : ∀ t', (⟨h, g, d, t', os⟩ : Shared).TypeIs (.ref f) "function" := fun _ => ⟨o, hx, hc⟩
  have hT1 := hT (t + 1)
  unfold setAttr callSpecial?
  repeat wp_step
  refine codeAny_call_builtin slot_fn_sa.plain entry_sa (slot_fn_sa.check _ _ _ _ _ _ _ _ hT1 (args_sa _ _ _) (fn_store_entry hx hc hnc hdn hB fun h' tk' h1 h2 h3 => ?_))
  repeat wp_step
  exact hq h' tk' h1 h2 h3
theorem fn_load_entry {dx : Addr} {mA : Str → Option Value} {tk : Tok} {Q : Fin → Shared → Prop} (hx : h.get? f = some o) (hc : o.cls = .type "function") (hnc : ∀ c, o.data ≠ .cls c) (hd : o.dict = some dx) (hn : h.Ns dx mA)
    (hB : typeLookup (.type "function") name = pure none) (hv : mA name = some v) (hq : Q (.done (.ret v)) ⟨h, g, d, t, os⟩) :
    wpAny (model prog w) A (Builtin.«object.__getattribute__» ⟨[.ref f, .str name tk], []⟩) Q E ⟨h, g, d, t, os⟩ := by
  have hT : (⟨h, g, d, t, os⟩ : Shared).TypeIs (.ref f) "function" := ⟨o, hx, hc⟩
  obtain ⟨oc, od, odt, osl⟩ := o
  cases hc
  cases hd
  unfold Builtin.«object.__getattribute__»
  repeat wp_step
  split
  · rename_i c hcd
    exact absurd hcd (hnc c)
  unfold instanceDict
  repeat (first | (with_reducible refine wpAny_nsGet hn ?_; rw [hv]) | wp_step)
  exact hq
theorem fn_load {dx : Addr} {mA : Str → Option Value} {expr : Bool} {Q : Value → Shared → Prop} (hx : h.get? f = some o) (hc : o.cls = .type "function") (hnc : ∀ c, o.data ≠ .cls c) (hd : o.dict = some dx) (hn : h.Ns dx mA)
    (hB : typeLookup (.type "function") name = pure none) (hv : mA name = some v) (hh : handedOut v = pure v) (hq : Q v ⟨h, g, d, t + 1, os⟩) :
    wpAny (model prog w) A (getAttr (.ref f) name expr) Q E ⟨h, g, d, t, os⟩ := by
  have hb := slot_fn_ga.bind (.ref f)
  have hl := lk_fn_ga
  have hT : (⟨h, g, d, t + 1, os⟩ : Shared).TypeIs (.ref f) "function" := ⟨o, hx, hc⟩
  have hex : (expr && onTheHeap (Value.builtin "object.__getattribute__")) = false := by cases expr <;> rfl
  unfold getAttr getAttrBy
  repeat wp_step
  refine codeAny_call_builtin slot_fn_ga.plain entry_ga (slot_fn_ga.check _ _ _ _ _ _ _ _ hT (args_ga _ _) (fn_load_entry hx hc hnc hd hn hB hv ?_))
  show wpAny _ _ (handedOut v) _ _ _
  rw [hh]
  exact wpAny_pure hq
theorem fn_method {dx : Addr} {mA : Str → Option Value} {pl : Sem Bool} {Q : Value × List Value → Shared → Prop} (hx : h.get? f = some o) (hc : o.cls = .type "function") (hnc : ∀ c, o.data ≠ .cls c) (hd : o.dict = some dx) (hn : h.Ns dx mA)
    (hB : typeLookup (.type "function") name = pure none) (hv : mA name = some v) (hh : handedOut v = pure v) (hq : Q (v, []) ⟨h, g, d, t + 1, os⟩) :
    wpAny (model prog w) A (getMethod (.ref f) name pl) Q E ⟨h, g, d, t, os⟩ := by
  have hl := lk_fn_ga
  have hl2 := lk_fn_hook
  have hT : (⟨h, g, d, t, os⟩ : Shared).TypeIs (.ref f) "function" := ⟨o, hx, hc⟩
  have hcan : (Manifest.canonical "object.__getattribute__" != "object.__getattribute__") = false := by decide +kernel
  unfold getMethod
  repeat (first | with_reducible refine fn_load hx hc hnc hd hn hB hv hh ?_ | wp_step)
  exact hq
theorem fn_truthy {Q : Bool → Shared → Prop} (hx : h.get? f = some o) (hc : o.cls = .type "function") (hq : Q true ⟨h, g, d, t, os⟩) :
    wpAny (model prog w) A (truthy (.ref f)) Q E ⟨h, g, d, t, os⟩ := by
  have hT : (⟨h, g, d, t, os⟩ : Shared).TypeIs (.ref f) "function" := ⟨o, hx, hc⟩
  have hl := lk_fn_bool
  have hl2 := lk_fn_len
  unfold truthy callSpecial?
  repeat wp_step
  exact hq
end

section
variable {prog : Program} {w : World} {A : Around} {E : Value → Shared → Prop} {s : Shared} {h₀ : Heap} {L f dx : Addr} {m mA : Str → Option Value} {news : List (Addr × Obj)} {g : Obj → List (Addr × Obj)} {o od : Obj} {name : Str} {v : Value}
theorem setFn_K {Q : Unit → Shared → Prop} (F : Fr h₀ L s.heap m) (N : News h₀ L s.heap news) (U : UpdF f o news g) (hc : o.cls = .type "function") (hnc : ∀ c, o.data ≠ .cls c) (hdn : o.dict = none)
    (hB : typeLookup (.type "function") name = pure none)
    (h : ∀ dx od h' tk, Fr h₀ L h' m → News h₀ L h' ((dx, od) :: g { o with dict := some dx }) → LCg.NsObj od (fun y => if y = name then some v else none) → (∀ p ∈ news, p.1 < dx) → Q () { s with heap := h', toks := tk }) :
    wpAny (model prog w) A (setAttr (.ref f) name v) Q E s := by
  obtain ⟨own, rest, rfl, hgr, h1, h2⟩ := U.split
  have hm := N (f, o) (List.mem_append_right _ (.head _))
  obtain ⟨hp, gs, dr, tk, os⟩ := s
  refine fn_store hm.1 hc hnc hdn hB fun h' tk' g1 g2 g3 => ?_
  obtain ⟨od, eod, hod⟩ := LCg.ns_obj g2
  have hLs : L < hp.objs.size := F.ns.lt
  have fresh : ∀ b, L < b → h₀.get? b = none := fun b hb => Heap.get?_none_of_le (Nat.le_trans F.above (Nat.le_of_lt hb))
  refine h hp.objs.size od h' tk' ⟨F.ns.at' fun o' e => g3 _ o' hm.2.1.symm e, fun b o' e => g3 b o' (fun q => by rw [q, hm.2.2] at e; cases e) (F.keep b o' e), F.above⟩ (fun q hq => ?_) hod
    (fun q hq => Heap.lt_size (N q hq).1)
  rcases List.mem_cons.mp hq with rfl | hq
  · exact ⟨eod, Nat.ne_of_gt hLs, fresh _ hLs⟩
  · rw [hgr] at hq
    rcases List.mem_append.mp hq with hq | hq
    · have n := N q (List.mem_append_left _ hq)
      exact ⟨g3 _ _ (h1 q hq) n.1, n.2⟩
    · rcases List.mem_cons.mp hq with rfl | hq
      · exact ⟨g1, hm.2⟩
      · have n := N q (List.mem_append_right _ (.tail _ hq))
        exact ⟨g3 _ _ (h2 q hq) n.1, n.2⟩
theorem methFn_K {pl : Sem Bool} {Q : Value × List Value → Shared → Prop} (N : News h₀ L s.heap news) (hf : (f, o) ∈ news) (hc : o.cls = .type "function") (hnc : ∀ c, o.data ≠ .cls c) (hd : o.dict = some dx) (hdx : (dx, od) ∈ news) (hn : LCg.NsObj od mA)
    (hB : typeLookup (.type "function") name = pure none) (hv : mA name = some v) (hh : handedOut v = pure v) (hq : Q (v, []) { s with toks := s.toks + 1 }) :
    wpAny (model prog w) A (getMethod (.ref f) name pl) Q E s := by
  obtain ⟨hp, gs, dr, tk, os⟩ := s
  exact fn_method (N _ hf).1 hc hnc hd (hn.ns (N _ hdx).1) hB hv hh hq
theorem truthFn_K {Q : Bool → Shared → Prop} (N : News h₀ L s.heap news) (hf : (f, o) ∈ news) (hc : o.cls = .type "function") (hq : Q true s) : wpAny (model prog w) A (truthy (.ref f)) Q E s := by
  obtain ⟨hp, gs, dr, tk, os⟩ := s
  exact fn_truthy (N _ hf).1 hc hq
end
end Mine

/- part: Hit -/
namespace Mine
local macro_rules | `(tactic| k_all) => `(tactic| assumption)
local macro_rules | `(tactic| k_all) => `(tactic| (refine' tbn_neAll (tbn_up ?lt9 ?as9); (case as9 => assumption); (case lt9 => omega)))
local macro_rules | `(tactic| walk_at "setAttr ref") => `(tactic| (k_here; k_dflt (refine' setFn_K ?k1 ?k2 ?k3 ?k4 ?k5 ?k6 ?k7 ?_; (case k1 => k_asm); (case k2 => k_asm); (case k3 => k_updF); (case k4 => exact rfl); (case k5 => (intro c9 h9; cases h9)); (case k6 => exact rfl); (case k7 => first | exact lk_fn_span | exact lk_fn_search); k_whole); intro dx' od' h' tk' F' N' hns' l1; (try dsimp only at N'); (try k_lt l1)))

/- the parts of a statement of the text, taken by their places -/
def fnBody : Stmt → List Stmt
  | .FunctionDef _ _ b _ _ _ _ _ _ _ => b
  | _ => []
def fnArgs : Stmt → Arguments
  | .FunctionDef _ a _ _ _ _ _ _ _ _ => a
  | _ => ⟨[], [], none, [], [], none, []⟩
def fnScope : Stmt → Scope
  | .FunctionDef _ _ _ _ _ _ s _ _ _ => s
  | _ => default
def lamArgs : Stmt → Arguments
  | .Assign _ (.Lambda a _ _ _) _ => a
  | _ => ⟨[], [], none, [], [], none, []⟩
def lamBody : Stmt → PySem.Expr
  | .Assign _ (.Lambda _ b _ _) _ => b
  | _ => .Constant .none 0 default
def lamScope : Stmt → Scope
  | .Assign _ (.Lambda _ _ s _) _ => s
  | _ => default
noncomputable abbrev hitDef : Stmt := (PySem.Challenge.pw_ki0033_01.main.body[4]?).getD (.Pass default)
noncomputable abbrev hitLam : Stmt := ((fnBody hitDef)[0]?).getD (.Pass default)
noncomputable abbrev spanLam : Stmt := ((fnBody hitDef)[1]?).getD (.Pass default)
noncomputable abbrev lamQual : Str := ("_law_hit" : Str) ++ ".<locals>." ++ "<lambda>"
noncomputable abbrev hitFn (pm : Value) (c1 : Addr) (ct1 : Value) (dx : Addr) : Obj :=
  { kla_obj "<lambda>" lamQual (lamArgs hitLam) (lamBody hitLam) (lamScope hitLam) [] pm c1 ct1 with dict := some dx }
noncomputable abbrev spanFn (pm : Value) (a1 a2 c2 : Addr) (ct2 : Value) : Obj :=
  kla_obj "<lambda>" lamQual (lamArgs spanLam) (lamBody spanLam) (lamScope spanLam) [("first", a1), ("behind", a2)] pm c2 ct2
/-- a code object of the lambda's name -/
def LamCode (news : List (Addr × Obj)) (c : Addr) : Prop := ∃ oc vs t, (c, oc) ∈ news ∧ oc.data = .fields vs ∧ vs[1]? = some (.str lamQual t)
def IsHit (pm : Value) (news : List (Addr × Obj)) (f : Addr) (i j : Int) : Prop :=
  ∃ dx od g c1 ct1 c2 ct2 a1 a2 o1 o2 ti tj, (f, hitFn pm c1 ct1 dx) ∈ news ∧ (dx, od) ∈ news ∧ LCg.NsObj od (fun y => if y = "span" then some (.ref g) else none) ∧ (g, spanFn pm a1 a2 c2 ct2) ∈ news ∧
    LamCode news c2 ∧ (a1, o1) ∈ news ∧ o1.data = .cell (some (.int i ti)) ∧ (a2, o2) ∈ news ∧ o2.data = .cell (some (.int j tj))
def HitTab (ps : Array Value) (news : List (Addr × Obj)) : Prop :=
  ps = #[] ∨ ∃ c1 c2, ps = #[rawInt 24, rawInt 10, .ref c1, rawInt 25, rawInt 15, .ref c2] ∧ LamCode news c2
theorem LamCode.mono {news news' : List (Addr × Obj)} {c : Addr} (h : LamCode news c) (hs : ∀ p ∈ news, p ∈ news') : LamCode news' c := let ⟨oc, vs, t, a, b, d⟩ := h; ⟨oc, vs, t, hs _ a, b, d⟩
theorem IsHit.mono {pm : Value} {news news' : List (Addr × Obj)} {f : Addr} {i j : Int} (h : IsHit pm news f i j) (hs : ∀ p ∈ news, p ∈ news') : IsHit pm news' f i j := by
  obtain ⟨dx, od, g, c1, ct1, c2, ct2, a1, a2, o1, o2, ti, tj, h1, h2, h3, h4, h5, h6, h7, h8, h9⟩ := h
  exact ⟨dx, od, g, c1, ct1, c2, ct2, a1, a2, o1, o2, ti, tj, hs _ h1, hs _ h2, h3, hs _ h4, h5.mono hs, hs _ h6, h7, hs _ h8, h9⟩
theorem HitTab.mono {ps : Array Value} {news news' : List (Addr × Obj)} (h : HitTab ps news) (hs : ∀ p ∈ news, p ∈ news') : HitTab ps news' :=
  h.imp id fun ⟨c1, c2, e, l⟩ => ⟨c1, c2, e, l.mono hs⟩
/-- what a hit leaves -/
abbrev HitRet (pm : Value) (h₀ : Heap) (L : Addr) (m : Str → Option Value) (rest : List (Addr × Obj)) (s : Shared) (i j : Int) (Q : Value → Shared → Prop) : Prop :=
  ∀ f ps' rest' h' tk', Fr h₀ L h' m → News h₀ L h' ((30, tabObj ps') :: rest') → (∀ p ∈ rest, p ∈ rest') → (∀ p ∈ rest', p.1 ≠ 30) → HitTab ps' rest' → IsHit pm rest' f i j → Q (.ref f) { s with heap := h', toks := tk' }

theorem news_pull {h₀ h : Heap} {L : Addr} {l1 l2 : List (Addr × Obj)} {x : Addr × Obj} (N : News h₀ L h (l1 ++ x :: l2)) : News h₀ L h (x :: (l1 ++ l2)) := fun p hp => N p (by
  rcases List.mem_cons.mp hp with rfl | hp
  · exact List.mem_append_right _ (.head _)
  · rcases List.mem_append.mp hp with hp | hp
    · exact List.mem_append_left _ hp
    · exact List.mem_append_right _ (.tail _ hp))
section
variable {pm : Value} {h₀ : Heap} {L : Addr} {m : Str → Option Value} {rest : List (Addr × Obj)} {s : Shared} {i j : Int} {Q : Value → Shared → Prop} {dx g c1 c2 f a1 a2 : Addr} {od o1 o2 oc1 oc2 : Obj} {ct1 ct2 : Value} {vs : Array Value} {t ti tj : Tok} {h' : Heap} {tk' : Nat}
theorem hit_end0 (hret : HitRet pm h₀ L m rest s i j Q) (F : Fr h₀ L h' m)
    (N : News h₀ L h' ((dx, od) :: (g, spanFn pm a1 a2 c2 ct2) :: (c2, oc2) :: (f, hitFn pm c1 ct1 dx) :: (c1, oc1) :: (a2, o2) :: (a1, o1) :: (30, tabObj #[rawInt 24, rawInt 10, .ref c1, rawInt 25, rawInt 15, .ref c2]) :: rest))
    (hod : LCg.NsObj od (fun y => if y = "span" then some (.ref g) else none)) (e1 : oc2.data = .fields vs) (e2 : vs[1]? = some (.str lamQual t)) (d1 : o1.data = .cell (some (.int i ti))) (d2 : o2.data = .cell (some (.int j tj)))
    (h30 : ∀ p ∈ rest, p.1 ≠ 30) (hlt : @LT.lt Nat _ 30 dx ∧ @LT.lt Nat _ 30 g ∧ @LT.lt Nat _ 30 c2 ∧ @LT.lt Nat _ 30 f ∧ @LT.lt Nat _ 30 c1 ∧ @LT.lt Nat _ 30 a2 ∧ @LT.lt Nat _ 30 a1) : Q (.ref f) { s with heap := h', toks := tk' } := by
  have N' := news_pull (l1 := [(dx, od), (g, spanFn pm a1 a2 c2 ct2), (c2, oc2), (f, hitFn pm c1 ct1 dx), (c1, oc1), (a2, o2), (a1, o1)]) N
  refine hret f _ _ h' tk' F N' (fun p hp => List.mem_append_right _ hp) ?_ (.inr ⟨c1, c2, rfl, oc2, vs, t, by simp, e1, e2⟩) ⟨dx, od, g, c1, ct1, c2, ct2, a1, a2, o1, o2, ti, tj, by simp, by simp, hod, by simp, ⟨oc2, vs, t, by simp, e1, e2⟩, by simp, d1, by simp, d2⟩
  intro p hp
  rcases List.mem_append.mp hp with hp | hp
  · have : 30 < p.1 := by
      have h9 : ∀ q ∈ [(dx, od), (g, spanFn pm a1 a2 c2 ct2), (c2, oc2), (f, hitFn pm c1 ct1 dx), (c1, oc1), (a2, o2), (a1, o1)], @LT.lt Nat _ 30 q.1 := by
        simp only [List.forall_mem_cons, List.not_mem_nil, false_implies, implies_true, and_true]
        omega
      exact h9 p hp
    exact Nat.ne_of_gt this
  · exact h30 p hp
theorem hit_end1 (hret : HitRet pm h₀ L m rest s i j Q) (F : Fr h₀ L h' m)
    (N : News h₀ L h' ((dx, od) :: (g, spanFn pm a1 a2 c2 ct2) :: (f, hitFn pm c1 ct1 dx) :: (a2, o2) :: (a1, o1) :: (30, tabObj #[rawInt 24, rawInt 10, .ref c1, rawInt 25, rawInt 15, .ref c2]) :: rest))
    (hod : LCg.NsObj od (fun y => if y = "span" then some (.ref g) else none)) (LC : LamCode rest c2) (d1 : o1.data = .cell (some (.int i ti))) (d2 : o2.data = .cell (some (.int j tj)))
    (h30 : ∀ p ∈ rest, p.1 ≠ 30) (hlt : @LT.lt Nat _ 30 dx ∧ @LT.lt Nat _ 30 g ∧ @LT.lt Nat _ 30 f ∧ @LT.lt Nat _ 30 a2 ∧ @LT.lt Nat _ 30 a1) : Q (.ref f) { s with heap := h', toks := tk' } := by
  have N' := news_pull (l1 := [(dx, od), (g, spanFn pm a1 a2 c2 ct2), (f, hitFn pm c1 ct1 dx), (a2, o2), (a1, o1)]) N
  have LC' : LamCode ([(dx, od), (g, spanFn pm a1 a2 c2 ct2), (f, hitFn pm c1 ct1 dx), (a2, o2), (a1, o1)] ++ rest) c2 := LC.mono fun p hp => List.mem_append_right _ hp
  refine hret f _ _ h' tk' F N' (fun p hp => List.mem_append_right _ hp) ?_ (.inr ⟨c1, c2, rfl, LC'⟩) ⟨dx, od, g, c1, ct1, c2, ct2, a1, a2, o1, o2, ti, tj, by simp, by simp, hod, by simp, LC', by simp, d1, by simp, d2⟩
  intro p hp
  rcases List.mem_append.mp hp with hp | hp
  · have : 30 < p.1 := by
      have h9 : ∀ q ∈ [(dx, od), (g, spanFn pm a1 a2 c2 ct2), (f, hitFn pm c1 ct1 dx), (a2, o2), (a1, o1)], @LT.lt Nat _ 30 q.1 := by
        simp only [List.forall_mem_cons, List.not_mem_nil, false_implies, implies_true, and_true]
        omega
      exact h9 p hp
    exact Nat.ne_of_gt this
  · exact h30 p hp
end
theorem hit_call0 : ∀ {w : World} {pp : Program} {lo : List Str} {mean : ExcName → Option Value} {mg mb : Str → Option Value} (dp un : Nat) (gd : Option (List Code)) (cn : Str) (cs : Scope) (a : Addr) (ccd : Value) (cl : List (Str × Addr)) (outer : List Env) (A₀ : Around) (base h₀ : Heap) (L : Addr) (m : Str → Option Value) (rest : List (Addr × Obj)) (s : Shared) (Q E : Value → Shared → Prop)
    (i : Int) (ti : Tok) (j : Int) (tj : Tok),
    Below A₀ base outer h₀ → Fr h₀ L s.heap m → (hd.heap_39 w.params).In h₀ → News h₀ L s.heap ((30, tabObj #[]) :: rest) → CodeHd base 34 30 → (∀ p ∈ rest, p.1 ≠ 30) → Top pp lo mean mg mb h₀ → cs.kind = .function →
    dp + 10 < recursionLimit → un + 100 < cLine → HitRet ((mg "__name__").getD .none) h₀ L m rest s i j Q →
    wpAny (model PySem.Challenge.rw_ki0033_01.row.prog w) (ktrTop dp un gd cn cs L a ccd cl outer) (call (.ref 35) [.int i ti, .int j tj]) Q E s := by
  k_fill
  w_top off
  intro w pp lo mean mg mb dp un gd cn cs a ccd cl outer A₀ base h₀ L m rest s Q E i ti j tj B F X N CH hr30 T hk hdp hun hret
  refine wpAny_call ?_
  w_strict (k_dflt (refine' code_defC ?k1 ?k2 ?k3 ?k4 ?k5 ?kA ?kF ?kK ?k6 ?k7 ?k8 ?k9 ?kB ?kD ?_ ?c2 ?c3 ?c4; (case kA => exact rfl); (case kF => exact rfl); (case kK => assumption); (case k1 => k_asm); (case k2 => k_asm); (case k3 => k_asm); (case k4 => k_asm); (case k5 => k_asm); (case k6 => k_is); (case k7 => k_is); (case k8 => ktr_room); (case k9 => exact BindsTo.of_eq rfl); (case kB => exact rfl); (case kD => decide +kernel); (case c2 => exact rfl); (case c3 => exact rfl); (case c4 => exact rfl); k_whole; intro g' L' h' tk' cells' FG' F' N' Y' B' X' T' l1; (try k_lt l1); (have hLr := l1.2); k_cells Y'; (try simp only [List.cons_append, List.nil_append] at N'); (try dsimp only); (try k_fold)))
  w_strict k_steps
  exact hit_end0 hret (by k_asm) (by assumption) (by assumption) (by assumption) (by assumption) (by assumption) (by assumption) hr30 (by omega)
theorem hit_call1 : ∀ {w : World} {pp : Program} {lo : List Str} {mean : ExcName → Option Value} {mg mb : Str → Option Value} (dp un : Nat) (gd : Option (List Code)) (cn : Str) (cs : Scope) (a : Addr) (ccd : Value) (cl : List (Str × Addr)) (outer : List Env) (A₀ : Around) (base h₀ : Heap) (L : Addr) (m : Str → Option Value) (rest : List (Addr × Obj)) (s : Shared) (Q E : Value → Shared → Prop)
    (i : Int) (ti : Tok) (j : Int) (tj : Tok) (c1 c2 : Addr),
    Below A₀ base outer h₀ → Fr h₀ L s.heap m → (hd.heap_39 w.params).In h₀ → News h₀ L s.heap ((30, tabObj #[rawInt 24, rawInt 10, .ref c1, rawInt 25, rawInt 15, .ref c2]) :: rest) → LamCode rest c2 → CodeHd base 34 30 → (∀ p ∈ rest, p.1 ≠ 30) → Top pp lo mean mg mb h₀ → cs.kind = .function →
    dp + 10 < recursionLimit → un + 100 < cLine → HitRet ((mg "__name__").getD .none) h₀ L m rest s i j Q →
    wpAny (model PySem.Challenge.rw_ki0033_01.row.prog w) (ktrTop dp un gd cn cs L a ccd cl outer) (call (.ref 35) [.int i ti, .int j tj]) Q E s := by
  k_fill
  w_top off
  intro w pp lo mean mg mb dp un gd cn cs a ccd cl outer A₀ base h₀ L m rest s Q E i ti j tj c1 c2 B F X N LC CH hr30 T hk hdp hun hret
  refine wpAny_call ?_
  w_strict (k_dflt (refine' code_defC ?k1 ?k2 ?k3 ?k4 ?k5 ?kA ?kF ?kK ?k6 ?k7 ?k8 ?k9 ?kB ?kD ?_ ?c2 ?c3 ?c4; (case kA => exact rfl); (case kF => exact rfl); (case kK => assumption); (case k1 => k_asm); (case k2 => k_asm); (case k3 => k_asm); (case k4 => k_asm); (case k5 => k_asm); (case k6 => k_is); (case k7 => k_is); (case k8 => ktr_room); (case k9 => exact BindsTo.of_eq rfl); (case kB => exact rfl); (case kD => decide +kernel); (case c2 => exact rfl); (case c3 => exact rfl); (case c4 => exact rfl); k_whole; intro g' L' h' tk' cells' FG' F' N' Y' B' X' T' l1; (try k_lt l1); (have hLr := l1.2); k_cells Y'; (try simp only [List.cons_append, List.nil_append] at N'); (try dsimp only); (try k_fold)))
  w_strict k_steps
  exact hit_end1 hret (by k_asm) (by assumption) (by assumption) LC (by assumption) (by assumption) hr30 (by omega)
theorem hit_call : ∀ {w : World} {pp : Program} {lo : List Str} {mean : ExcName → Option Value} {mg mb : Str → Option Value} (dp un : Nat) (gd : Option (List Code)) (cn : Str) (cs : Scope) (a : Addr) (ccd : Value) (cl : List (Str × Addr)) (outer : List Env) (A₀ : Around) (base h₀ : Heap) (L : Addr) (m : Str → Option Value) (ps : Array Value) (rest : List (Addr × Obj)) (s : Shared) (Q E : Value → Shared → Prop)
    (i : Int) (ti : Tok) (j : Int) (tj : Tok),
    Below A₀ base outer h₀ → Fr h₀ L s.heap m → (hd.heap_39 w.params).In h₀ → News h₀ L s.heap ((30, tabObj ps) :: rest) → HitTab ps rest → CodeHd base 34 30 → (∀ p ∈ rest, p.1 ≠ 30) → Top pp lo mean mg mb h₀ → cs.kind = .function →
    dp + 10 < recursionLimit → un + 100 < cLine → HitRet ((mg "__name__").getD .none) h₀ L m rest s i j Q →
    wpAny (model PySem.Challenge.rw_ki0033_01.row.prog w) (ktrTop dp un gd cn cs L a ccd cl outer) (call (.ref 35) [.int i ti, .int j tj]) Q E s := by
  intro w pp lo mean mg mb dp un gd cn cs a ccd cl outer A₀ base h₀ L m ps rest s Q E i ti j tj B F X N HT CH hr30 T hk hdp hun hret
  rcases HT with rfl | ⟨c1, c2, rfl, LC⟩
  · exact hit_call0 dp un gd cn cs a ccd cl outer A₀ base h₀ L m rest s Q E i ti j tj B F X N CH hr30 T hk hdp hun hret
  · exact hit_call1 dp un gd cn cs a ccd cl outer A₀ base h₀ L m rest s Q E i ti j tj c1 c2 B F X N LC CH hr30 T hk hdp hun hret
theorem hit_callI {w : World} {pp : Program} {lo : List Str} {mean : ExcName → Option Value} {mg mb : Str → Option Value} {dp un : Nat} {gd : Option (List Code)} {cn : Str} {cs : Scope} {a : Addr} {ccd : Value} {cl : List (Str × Addr)} {outer : List Env} {A₀ : Around} {base h₀ : Heap} {L : Addr} {m : Str → Option Value} {ps : Array Value} {rest : List (Addr × Obj)} {s : Shared} {Q E : Value → Shared → Prop}
    {i : Int} {ti : Tok} {j : Int} {tj : Tok}
    (B : Below A₀ base outer h₀) (F : Fr h₀ L s.heap m) (X : (hd.heap_39 w.params).In h₀) (N : News h₀ L s.heap ((30, tabObj ps) :: rest)) (T : Top pp lo mean mg mb h₀) (hk : cs.kind = .function) (HT : HitTab ps rest) (CH : CodeHd base 34 30) (hr : ∀ p ∈ rest, p.1 ≠ 30)
    (hdp : dp + 10 < recursionLimit) (hun : un + 100 < cLine) (ret : HitRet ((mg "__name__").getD .none) h₀ L m rest s i j Q) :
    wpAny (model PySem.Challenge.rw_ki0033_01.row.prog w) (ktrTop dp un gd cn cs L a ccd cl outer) (call (.ref 35) [.int i ti, .int j tj]) Q E s :=
  hit_call dp un gd cn cs a ccd cl outer A₀ base h₀ L m ps rest s Q E i ti j tj B F X N HT CH hr T hk hdp hun ret
end Mine

/- part: Loop -/
namespace Mine
open PySem PySem.W PyProof.Rows PySem.Calls

/-- a for over a range, its loop put aside -/
def LoopAside (prog : Program) (w : World) (A : Around) (env : Env) (x : Str) (px : Pos) (body : List Stmt) (Q : Flow → Shared → Prop) (E : Value → Shared → Prop) (it : Value) (s₂ : Shared) : Prop :=
  codeAny (model prog w) A (.forLoop (.Name x px) it body [] env) (fun r s' => match r with | .ok f => Q f s' | .error e => cameBackBy (model prog w) A env E e s') s₂
abbrev riter (a n : Int) : Obj := { cls := .type "range_iterator", dict := none, data := .fields #[rawInt a, rawInt n, rawInt 1], slots := #[] }
def LawTurnEnd (h₀ : Heap) (L I : Addr) (o : Obj) (J : (Str → Option Value) → List (Addr × Obj) → Prop) (s : Shared) (s₂ : Shared) : Prop :=
  ∃ h' tk m' news', s₂ = { s with heap := h', toks := tk } ∧ Fr h₀ L h' m' ∧ News h₀ L h' ((I, o) :: news') ∧ (∀ p ∈ news', p.1 ≠ I) ∧ J m' news'
def LawTurn (h₀ : Heap) (L I : Addr) (o : Obj) (J : (Str → Option Value) → List (Addr × Obj) → Prop) (s : Shared) (Q : Flow → Shared → Prop) (f : Flow) (s₂ : Shared) : Prop :=
  match f with
  | .ret v => Q (.ret v) s₂
  | .brk => Q .next s₂
  | _ => LawTurnEnd h₀ L I o J s s₂
section
variable {prog : Program} {w : World} {A : Around} {E : Value → Shared → Prop} {s : Shared} {env : Env} {Q : Flow → Shared → Prop} {x : Str} {px pos : Pos} {iter : Expr} {body : List Stmt}
theorem for_aside (h : wpAny (model prog w) A (eval iter env) (fun xv s₁ => wpAny (model prog w) A (pyIter xv) (fun it s₂ => LoopAside prog w A env x px body Q E it s₂) E s₁) E s)
    (hs : ∀ x, foldedSetIterable iter env x = pure x := by intro _; rfl) : wpAny (model prog w) A (exec (.For (.Name x px) iter body [] pos) env) Q E s := wpAny_For h hs
theorem loop_range {h₀ : Heap} {L r : Addr} {a b : Int} {t u v : Tok} {n : Nat} {m : Str → Option Value} {news : List (Addr × Obj)} (J : Nat → (Str → Option Value) → List (Addr × Obj) → Prop)
    (hh : A.handled = none) (hr : IsRange s.heap r a b 1 t u v) (hsmall : Builtin.Range.small a b 1 = true) (hn : Builtin.Range.rangeSize a b 1 = (n : Int)) (F : Fr h₀ L s.heap m) (N : News h₀ L s.heap news) (hj : J 0 m news)
    (turn : ∀ (i : Nat) (ti : Tok) (I : Addr) m₁ news₁ h tk, i < n → J i m₁ news₁ → Fr h₀ L h m₁ → News h₀ L h ((I, riter (a + i + 1) (n - i - 1)) :: news₁) → (∀ p ∈ news₁, p.1 ≠ I) → (∀ p ∈ news, p.1 < I) →
      wpAny (model prog w) A (storeName env x (.int (a + i) ti)) (fun _ s₂ => wpAny (model prog w) A (execs body env) (LawTurn h₀ L I (riter (a + i + 1) (n - i - 1)) (J (i + 1)) s Q) E s₂) E { s with heap := h, toks := tk })
    (done : ∀ m₁ news₁ h tk, J n m₁ news₁ → Fr h₀ L h m₁ → News h₀ L h news₁ → Q .next { s with heap := h, toks := tk })
    (hE : PassesOwn (model prog w) A env E := by passes_own) :
    wpAny (model prog w) A (pyIter (.ref r)) (fun it s₂ => LoopAside prog w A env x px body Q E it s₂) E s := by
  refine wpAny_pyIter_range hr hsmall ?_
  show codeAny _ _ _ _ _
  have hLs : L < s.heap.objs.size := F.ns.lt
  have fresh : h₀.get? s.heap.objs.size = none := Heap.get?_none_of_le (Nat.le_trans F.above (Nat.le_of_lt hLs))
  have hlt : ∀ p ∈ news, p.1 < s.heap.objs.size := fun p hp => Heap.lt_size (N p hp).1
  refine codeAny_forLoop
    (fun k s' => ∃ h' tk m' news' i, s' = { s with heap := h', toks := tk } ∧ Fr h₀ L h' m' ∧ News h₀ L h' ((s.heap.objs.size, riter (a + (i : Nat)) (n - (i : Nat))) :: news') ∧ (∀ p ∈ news', p.1 ≠ s.heap.objs.size) ∧ J i m' news' ∧ i ≤ n ∧ k = n + 1 - i) ?_ (n + 1)
    ⟨_, s.toks, m, news, 0, rfl, F.push _, ?_, fun p hp => Nat.ne_of_lt (hlt p hp), hj, Nat.zero_le _, rfl⟩
  · rintro k s' ⟨h', tk, m', news', i, rfl, F', N', hne, hJ, hi, rfl⟩
    have hit : IsRangeIter h' s.heap.objs.size (a + (i : Nat)) (n - (i : Nat)) 1 := (N' _ (.head _)).1
    by_cases hlt' : i < n
    · refine wpAny_pyNext_range_item hit (by omega) fun h₁ hit₁ hs₁ => ?_
      have F₁ : Fr h₀ L h₁ m' := ⟨F'.ns.at' fun o e => (hs₁.2 L (Nat.ne_of_lt hLs)).trans e, fun b o e => (hs₁.2 b (fun q => by rw [q, fresh] at e; cases e)).trans (F'.keep b o e), F'.above⟩
      have N₁ : News h₀ L h₁ ((s.heap.objs.size, riter (a + (i : Nat) + 1) (n - (i : Nat) - 1)) :: news') := fun p hp => by
        rcases List.mem_cons.mp hp with rfl | hp
        · exact ⟨hit₁, Nat.ne_of_gt hLs, fresh⟩
        · have q := N' p (.tail _ hp)
          exact ⟨(hs₁.2 _ (hne p hp)).trans q.1, q.2⟩
      refine wpAny_assign_Name (wpAny_mono (wpAny_passesOwn hE (turn i tk s.heap.objs.size m' news' h₁ (tk + 1) hlt' hJ F₁ N₁ hne hlt)) (fun _ s₂ h₂ => wpAny_mono (wpAny_passesOwn hE h₂) (fun f s₃ h₃ => ?_) fun _ _ e => e) fun _ _ e => e)
      have go : LawTurnEnd h₀ L s.heap.objs.size (riter (a + i + 1) (n - i - 1)) (J (i + 1)) s s₃ → ∃ m, m < n + 1 - i ∧ (∃ h' tk m' news' i, s₃ = { s with heap := h', toks := tk } ∧ Fr h₀ L h' m' ∧ News h₀ L h' ((s.heap.objs.size, riter (a + (i : Nat)) (n - (i : Nat))) :: news') ∧ (∀ p ∈ news', p.1 ≠ s.heap.objs.size) ∧ J i m' news' ∧ i ≤ n ∧ m = n + 1 - i) := by
        rintro ⟨h₃', tk₃, m₃, news₃, rfl, F₃, N₃, hne₃, hJ₃⟩
        refine ⟨n + 1 - (i + 1), by omega, h₃', tk₃, m₃, news₃, i + 1, rfl, F₃, ?_, hne₃, hJ₃, hlt', rfl⟩
        have e1 : a + ((i + 1 : Nat) : Int) = a + (i : Int) + 1 := by omega
        have e2 : (n : Int) - ((i + 1 : Nat) : Int) = (n : Int) - (i : Int) - 1 := by omega
        rw [e1, e2]
        exact N₃
      cases f with
      | next => exact go h₃
      | cont => exact go h₃
      | brk => exact h₃
      | ret v => exact h₃
    · have hin : i = n := by omega
      subst hin
      refine wpAny_pyNext_range_end hh hit (by omega) fun h₁ he₁ => wpAny_execs_nil ?_
      refine done m' news' h₁ tk hJ ⟨F'.ns.at' fun o e => he₁ L o (Nat.ne_of_lt hLs) e, fun b o e => he₁ b o (fun q => by rw [q, fresh] at e; cases e) (F'.keep b o e), F'.above⟩ (fun p hp => ?_)
      have q := N' p (.tail _ hp)
      exact ⟨he₁ _ _ (hne p hp) q.1, q.2⟩
  · intro p hp
    rcases List.mem_cons.mp hp with rfl | hp
    · refine ⟨?_, Nat.ne_of_gt hLs, fresh⟩
      have e := Heap.get?_push_size s.heap (o := { cls := .type "range_iterator", data := .fields #[rawInt a, rawInt (Builtin.Range.rangeSize a b 1), rawInt 1] }) rfl
      rw [hn] at e ⊢
      simpa [riter] using e
    · exact ⟨Heap.get?_push_of_some _ (N p hp).1, (N p hp).2⟩
end
theorem frame_back {m₀ m' : Str → Option Value} {stored : List Str} {h₀ h : Heap} {L : Addr} (F : Fr h₀ L h m') (hs : ∀ z, stored.contains z = false → m' z = m₀ z) : Fr h₀ L h (fun z => if stored.contains z then m' z else m₀ z) := by
  have e : (fun z => if stored.contains z then m' z else m₀ z) = m' := by
    funext z
    cases h3 : stored.contains z with
    | true => simp
    | false => simpa using (hs z h3).symm
  rw [e]; exact F
section
variable {prog : Program} {w : World} {A : Around} {E : Value → Shared → Prop} {s : Shared} {env : Env} {Q : Flow → Shared → Prop} {x : Str} {px pos : Pos} {iter : Expr} {body : List Stmt}
/-- what a turn leaves: the frame but for the stored names, a word of the ledger -/
def Left (m₀ : Str → Option Value) (stored : List Str) (P : List (Addr × Obj) → Prop) (m' : Str → Option Value) (news' : List (Addr × Obj)) : Prop := (∀ z, stored.contains z = false → m' z = m₀ z) ∧ P news'
theorem loop_st {h₀ : Heap} {L r : Addr} {a b : Int} {t u v : Tok} {n : Nat} {m₀ : Str → Option Value} {news : List (Addr × Obj)} (stored : List Str) (P : Nat → List (Addr × Obj) → Prop)
    (hh : A.handled = none) (hr : IsRange s.heap r a b 1 t u v) (hsmall : Builtin.Range.small a b 1 = true) (hn : Builtin.Range.rangeSize a b 1 = (n : Int)) (F : Fr h₀ L s.heap m₀) (N : News h₀ L s.heap news) (hj : P 0 news)
    (turn : ∀ (i : Nat) (ti : Tok) (I : Addr) (um : Str → Option Value) news₁ h tk, i < n → P i news₁ → Fr h₀ L h (fun z => if stored.contains z then um z else m₀ z) → News h₀ L h ((I, riter (a + i + 1) (n - i - 1)) :: news₁) → (∀ p ∈ news₁, p.1 ≠ I) → (∀ p ∈ news, p.1 < I) →
      wpAny (model prog w) A (storeName env x (.int (a + i) ti)) (fun _ s₂ => wpAny (model prog w) A (execs body env) (LawTurn h₀ L I (riter (a + i + 1) (n - i - 1)) (Left m₀ stored (P (i + 1))) s Q) E s₂) E { s with heap := h, toks := tk })
    (done : ∀ (um : Str → Option Value) news₁ h tk, P n news₁ → Fr h₀ L h (fun z => if stored.contains z then um z else m₀ z) → News h₀ L h news₁ → Q .next { s with heap := h, toks := tk })
    (hE : PassesOwn (model prog w) A env E := by passes_own) :
    wpAny (model prog w) A (pyIter (.ref r)) (fun it s₂ => LoopAside prog w A env x px body Q E it s₂) E s :=
  loop_range (fun i => Left m₀ stored (P i)) hh hr hsmall hn F N ⟨fun _ _ => rfl, hj⟩
    (fun i ti I m₁ news₁ h tk hi hJ F₁ N₁ h1 h2 => turn i ti I m₁ news₁ h tk hi hJ.2 (frame_back F₁ hJ.1) N₁ h1 h2)
    (fun m₁ news₁ h tk hJ F₁ N₁ => done m₁ news₁ h tk hJ.2 (frame_back F₁ hJ.1) N₁) hE
theorem turn_end {h₀ h' : Heap} {L I : Addr} {o : Obj} {m₀ m' : Str → Option Value} {stored : List Str} {P : List (Addr × Obj) → Prop} {news' : List (Addr × Obj)} {tk : Nat}
    (F : Fr h₀ L h' m') (N : News h₀ L h' ((I, o) :: news')) (hne : ∀ p ∈ news', p.1 ≠ I) (hs : ∀ z, stored.contains z = false → m' z = m₀ z) (hp : P news') :
    LawTurnEnd h₀ L I o (Left m₀ stored P) s { s with heap := h', toks := tk } := ⟨h', tk, m', news', rfl, F, N, hne, hs, hp⟩
end
theorem rangeSize_one {a b : Int} (h : a ≤ b) : Builtin.Range.rangeSize a b 1 = (((b - a).toNat : Nat) : Int) := by
  unfold Builtin.Range.rangeSize
  split <;> split <;> omega
end Mine

/- part: Reach -/
namespace Mine
/-- what _law_reach gives -/
def reach (c : Str) (e : Bool) (p : Int) : Int :=
  if (c.length : Int) ≤ p then (if e then p else -1)
  else if 0 ≤ Txt.find "-01234" (Txt.item c p) - 1 then (if (c.length : Int) < p + (Txt.find "-01234" (Txt.item c p) - 1) then c.length else p + (Txt.find "-01234" (Txt.item c p) - 1)) else -1
theorem ret_int {h₀ h' : Heap} {L : Addr} {m : Str → Option Value} {news : List (Addr × Obj)} {s : Shared} {Q : Value → Shared → Prop} {t : Tok} {tk' : Nat} {x y : Int} (hret : ∀ (t : Tok) (h' : Heap) (tk' : Nat), Fr h₀ L h' m → News h₀ L h' news → Q (.int x t) { s with heap := h', toks := tk' })
    (F : Fr h₀ L h' m) (N : News h₀ L h' news) (e : x = y) : Q (.int y t) { s with heap := h', toks := tk' } := by
  subst e; exact hret t h' tk' F N
theorem reach_call : ∀ {w : World} {pp : Program} {lo : List Str} {mean : ExcName → Option Value} {mg mb : Str → Option Value} {dp un : Nat} {gd : Option (List Code)} {cn : Str} {cs : Scope} {a : Addr} {ccd : Value} {cl : List (Str × Addr)} {outer : List Env} {A₀ : Around} {base h₀ : Heap} {L : Addr} {m : Str → Option Value} {news : List (Addr × Obj)} {s : Shared} {Q E : Value → Shared → Prop}
    {c : Str} {tc : Tok} {p : Int} {tp : Tok} {e : Bool},
    Below A₀ base outer h₀ → Fr h₀ L s.heap m → (hd.heap_39 w.params).In h₀ → News h₀ L s.heap news → Top pp lo mean mg mb h₀ → cs.kind = .function →
    dp + 10 < recursionLimit → un + 100 < cLine → 0 ≤ p → p ≤ 12 → c.length ≤ 12 →
    (∀ t h' tk', Fr h₀ L h' m → News h₀ L h' news → Q (.int (reach c e p) t) { s with heap := h', toks := tk' }) →
    wpAny (model PySem.Challenge.rw_ki0033_01.row.prog w) (ktrTop dp un gd cn cs L a ccd cl outer) (call (.ref 28) [.str c tc, .int p tp, .bool e]) Q E s := by
  k_fill
  w_top off
  intro w pp lo mean mg mb dp un gd cn cs a ccd cl outer A₀ base h₀ L m news s Q E c tc p tp e B F X N T hk hdp hun hp0 hp12 hc hret
  refine wpAny_call ?_
  w_strict (k_dflt ktr_enter)
  w_strict k_steps
  all_goals refine ret_int hret (by k_asm) (by k_asm) ?_
  all_goals (unfold reach)
  all_goals (simp only [*, if_true, if_false, Bool.false_eq_true])
end Mine

/- part: Search -/
namespace Mine
noncomputable abbrev progDef : Stmt := (PySem.Challenge.pw_ki0033_01.main.body[5]?).getD (.Pass default)
noncomputable abbrev searchDef : Stmt := ((fnBody progDef)[0]?).getD (.Pass default)
noncomputable abbrev searchQual : Str := ("_law_prog" : Str) ++ ".<locals>." ++ "search"
noncomputable abbrev searchFn (pm : Value) (ce tD : Addr) (dc : Value) (cS : Addr) (ct : Value) : Obj :=
  kdv_obj "search" searchQual (fnArgs searchDef) (.stmts (fnBody searchDef)) (fnScope searchDef) [("ending", ce)] (.ref tD) dc pm cS ct
def IsSearch (pm : Value) (news : List (Addr × Obj)) (fs : Addr) (e : Bool) : Prop :=
  ∃ ce oce tD t0 dc cS oc vs t ct, (fs, searchFn pm ce tD dc cS ct) ∈ news ∧ (cS, oc) ∈ news ∧ oc.data = .fields vs ∧ vs[1]? = some (.str searchQual t) ∧ (tD, kdv_tup [.int 0 t0]) ∈ news ∧ (ce, oce) ∈ news ∧ oce.data = .cell (some (.bool e))
theorem IsSearch.mono {pm : Value} {news news' : List (Addr × Obj)} {f : Addr} {e : Bool} (h : IsSearch pm news f e) (hs : ∀ p ∈ news, p ∈ news') : IsSearch pm news' f e := by
  obtain ⟨ce, oce, tD, t0, dc, cS, oc, vs, t, ct, h1, h2, h3, h4, h5, h6, h7⟩ := h
  exact ⟨ce, oce, tD, t0, dc, cS, oc, vs, t, ct, hs _ h1, hs _ h2, h3, h4, hs _ h5, hs _ h6, h7⟩
/-- what search leaves -/
structure SearchRet (pm : Value) (h₀ : Heap) (L : Addr) (m : Str → Option Value) (rest : List (Addr × Obj)) (s : Shared) (r : Int → Int) (a b : Int) (Q : Value → Shared → Prop) : Prop where
  hit : ∀ i f ps' rest' h' tk', a ≤ i → i ≤ b → (∀ k, a ≤ k → k < i → r k < 0) → 0 ≤ r i → Fr h₀ L h' m → News h₀ L h' ((30, tabObj ps') :: rest') → (∀ p ∈ rest, p ∈ rest') → (∀ p ∈ rest', p.1 ≠ 30) → HitTab ps' rest' → IsHit pm rest' f i (r i) → Q (.ref f) { s with heap := h', toks := tk' }
  miss : ∀ ps' rest' h' tk', (∀ k, a ≤ k → k ≤ b → r k < 0) → Fr h₀ L h' m → News h₀ L h' ((30, tabObj ps') :: rest') → (∀ p ∈ rest, p ∈ rest') → (∀ p ∈ rest', p.1 ≠ 30) → HitTab ps' rest' → Q .none { s with heap := h', toks := tk' }
local macro_rules | `(tactic| walk_at "exec For Name Call cons nil") => `(tactic| (k_here; k_dflt (refine for_aside ?_)))
local macro_rules | `(tactic| walk_at "call ref") => `(tactic| (k_here; (with_reducible show wpAny _ _ (call (Value.ref 28) _) _ _ _); k_dflt (refine' reach_call ?k1 ?k2 ?k3 ?k4 ?k5 ?kK ?kd ?ku ?p0 ?p1 ?p2 ?_; (case k1 => k_asm); (case k2 => k_asm); (case k3 => k_asm); (case k4 => k_asm); (case k5 => k_asm); (case kK => first | exact rfl | assumption); (case kd => ktr_room); (case ku => ktr_units); (case p0 => omega); (case p1 => omega); (case p2 => omega); k_whole); intro t9 h9 tk9 F9 N9; (try dsimp only); (try k_fold)))
local macro_rules | `(tactic| walk_at "eval Name") => `(tactic| (k_here; (with_reducible show wpAny _ _ (eval (Expr.Name (Str.ofString "ending") _) _) _ _ _); k_dflt (refine' nameX_F ?N ?c ?m ?d ?_ ?a ?b; (case a => rfl); (case b => rfl); (case c => rfl); (case N => k_asm); (case m => assumption); (case d => assumption); k_whole)))
local macro_rules | `(tactic| walk_at "call ref") => `(tactic| (k_here; (with_reducible show wpAny _ _ (call (Value.ref 35) _) _ _ _); k_dflt (refine' hit_callI ?k1 ?k2 ?k3 (news_pull (l1 := [_]) ?k4) ?k5 ?kK ?kT ?kC ?k30 ?kd ?ku ?_; (case k1 => k_asm); (case k2 => k_asm); (case k3 => k_asm); (case k4 => k_asm); (case k5 => k_asm); (case kK => first | exact rfl | assumption); (case kT => assumption); (case kC => assumption); (case k30 => assumption); (case kd => ktr_room); (case ku => ktr_units); k_whole); intro f9 ps9 rest9 h9 tk9 F9 N9 hs9 h309 HT9 IH9; (try dsimp only); (try k_fold)))
theorem sub_app {l rest r : List (Addr × Obj)} (h : ∀ p ∈ l ++ rest, p ∈ r) : ∀ p ∈ rest, p ∈ r := fun p hp => h p (List.mem_append_right _ hp)
local macro_rules | `(tactic| walk_at "LawTurn") => `(tactic| dsimp only [LawTurn])
theorem search_call2 : ∀ {w : World} {pp : Program} {lo : List Str} {mean : ExcName → Option Value} {mg mb : Str → Option Value} {dp un : Nat} {gd : Option (List Code)} {cn : Str} {cs : Scope} {a : Addr} {ccd : Value} {cl : List (Str × Addr)} {outer : List Env} {A₀ : Around} {base h₀ : Heap} {L : Addr} {m : Str → Option Value} {ps : Array Value} {rest : List (Addr × Obj)} {s : Shared} {Q E : Value → Shared → Prop}
    {fs : Addr} {c : Str} {tc : Tok} {p : Int} {tp : Tok} {e : Bool},
    Below A₀ base outer h₀ → Fr h₀ L s.heap m → (hd.heap_39 w.params).In h₀ → News h₀ L s.heap ((30, tabObj ps) :: rest) → HitTab ps rest → CodeHd base 34 30 → (∀ p ∈ rest, p.1 ≠ 30) → Top pp lo mean mg mb h₀ → cs.kind = .function →
    dp + 20 < recursionLimit → un + 200 < cLine → IsSearch ((mg "__name__").getD .none) rest fs e → 0 ≤ p → p ≤ 13 → c.length ≤ 12 →
    SearchRet ((mg "__name__").getD .none) h₀ L m rest s (reach c e) (if (c.length : Int) < p then c.length else p) c.length Q →
    wpAny (model PySem.Challenge.rw_ki0033_01.row.prog w) (ktrTop dp un gd cn cs L a ccd cl outer) (call (.ref fs) [.str c tc, .int p tp]) Q E s := by
  k_fill
  w_top off
  intro w pp lo mean mg mb dp un gd cn cs a ccd cl outer A₀ base h₀ L m ps rest s Q E fs c tc p tp e B F X N HT CH hr30 T hk hdp hun hS hp0 hp13 hc hret
  obtain ⟨ce, oce, tD, t0, dc, cS, oc, vs, t, ct, h1, h2, h3, h4, h5, h6, h7⟩ := id hS
  dsimp only [searchFn, searchDef, progDef, fnBody, fnArgs, fnScope, PySem.Challenge.pw_ki0033_01, List.getElem?_cons_succ, List.getElem?_cons_zero, Option.getD_some] at h1
  have m1 := List.mem_cons_of_mem (30, tabObj ps) h1
  have m2 := List.mem_cons_of_mem (30, tabObj ps) h2
  have m5 := List.mem_cons_of_mem (30, tabObj ps) h5
  have m6 := List.mem_cons_of_mem (30, tabObj ps) h6
  refine wpAny_call ?_
  w_strict (k_dflt (refine' kdv_code ?k1 ?k2 ?k3 ?k4 ?k5 ?kA ?kF ?kK ?k6 ?k7 ?k8 ?k9 ?kB ?_ ?c2 ?c3 ?c4 ?c5; (case kA => exact rfl); (case kF => exact rfl); (case kK => assumption); (case k1 => k_asm); (case k2 => k_asm); (case k3 => k_asm); (case k4 => k_asm); (case k5 => k_asm); (case k6 => exact m1); (case k7 => exact codeRec_news N m2 h3 h4); (case k8 => ktr_room); (case k9 => kdv_bind); (case c5 => decide); (case kB => exact locs rfl); (case c2 => exact rfl); (case c3 => exact rfl); (case c4 => exact rfl); k_whole; intro g' L' h' FG' F' N' B' X' T'; (try dsimp only); (try k_fold)))
  w_strict k_steps
  rename IsRange _ _ _ _ _ _ _ _ => hR
  have hmin : 0 ≤ (if (c.length : Int) < p then (c.length : Int) else p) ∧ (if (c.length : Int) < p then (c.length : Int) else p) ≤ c.length := by split <;> omega
  generalize (if (c.length : Int) < p then (c.length : Int) else p) = A at hR hmin hret ⊢
  refine loop_st (stored := ["place", "behind"]) (P := fun i news₁ => news₁ = (30, tabObj ps) :: rest ∧ ∀ k, A ≤ k → k < A + i → reach c e k < 0) rfl hR (small_one (by omega) (by omega) (by omega) (by omega)) (rangeSize_nat _ _) (by assumption) (by assumption) ⟨rfl, fun k h1 h2 => by omega⟩ ?turn ?done
  case turn =>
    rintro i ti I um news₁ h9 tk9 hi ⟨rfl, hP⟩ F9 N9 hne hlt
    have mE := List.mem_cons_of_mem (I, riter (A + i + 1) (((c.length + 1 - A).toNat : Int) - i - 1)) m6
    have hT9 : HitTab ps ([(I, riter (A + i + 1) (((c.length + 1 - A).toNat : Int) - i - 1))] ++ rest) := HT.mono fun p hp => List.mem_append_right _ hp
    have h39 : ∀ p ∈ [(I, riter (A + i + 1) (((c.length + 1 - A).toNat : Int) - i - 1))] ++ rest, p.1 ≠ 30 := fun p hp => by
      rcases List.mem_append.mp hp with hp | hp
      · rw [List.mem_singleton.mp hp]; exact (hne _ (.head _)).symm
      · exact hr30 p hp
    w_strict k_steps
    · exact hret.hit (A + i) _ _ _ _ _ (by omega) (by omega) hP (by assumption) (by k_asm) (by assumption) (sub_app (by assumption)) (by assumption) (by assumption) (by assumption)
    · refine turn_end (by assumption) (by assumption) hne ?_ ⟨rfl, fun k h1 h2 => ?_⟩
      · intro z h3
        have h4 := h3
        simp only [List.contains_cons, List.contains_nil, Bool.or_false, Bool.or_eq_false_iff, beq_eq_false_iff_ne, ne_eq] at h4
        simp only [h3, h4, if_false, Bool.false_eq_true]
      · by_cases h5 : k < A + i
        · exact hP k h1 h5
        · have h6 : k = A + i := by omega
          subst h6
          omega
  case done =>
    rintro um news₁ h9 tk9 ⟨rfl, hP⟩ F9 N9
    w_strict k_steps
    exact hret.miss _ _ _ _ (fun k h1 h2 => hP k h1 (by omega)) (by k_asm) (by assumption) (fun p hp => hp) hr30 HT
theorem search_call1 : ∀ {w : World} {pp : Program} {lo : List Str} {mean : ExcName → Option Value} {mg mb : Str → Option Value} {dp un : Nat} {gd : Option (List Code)} {cn : Str} {cs : Scope} {a : Addr} {ccd : Value} {cl : List (Str × Addr)} {outer : List Env} {A₀ : Around} {base h₀ : Heap} {L : Addr} {m : Str → Option Value} {ps : Array Value} {rest : List (Addr × Obj)} {s : Shared} {Q E : Value → Shared → Prop}
    {fs : Addr} {c : Str} {tc : Tok} {e : Bool},
    Below A₀ base outer h₀ → Fr h₀ L s.heap m → (hd.heap_39 w.params).In h₀ → News h₀ L s.heap ((30, tabObj ps) :: rest) → HitTab ps rest → CodeHd base 34 30 → (∀ p ∈ rest, p.1 ≠ 30) → Top pp lo mean mg mb h₀ → cs.kind = .function →
    dp + 20 < recursionLimit → un + 200 < cLine → IsSearch ((mg "__name__").getD .none) rest fs e → c.length ≤ 12 →
    SearchRet ((mg "__name__").getD .none) h₀ L m rest s (reach c e) 0 c.length Q →
    wpAny (model PySem.Challenge.rw_ki0033_01.row.prog w) (ktrTop dp un gd cn cs L a ccd cl outer) (call (.ref fs) [.str c tc]) Q E s := by
  k_fill
  w_top off
  intro w pp lo mean mg mb dp un gd cn cs a ccd cl outer A₀ base h₀ L m ps rest s Q E fs c tc e B F X N HT CH hr30 T hk hdp hun hS hc hret
  obtain ⟨ce, oce, tD, t0, dc, cS, oc, vs, t, ct, h1, h2, h3, h4, h5, h6, h7⟩ := id hS
  dsimp only [searchFn, searchDef, progDef, fnBody, fnArgs, fnScope, PySem.Challenge.pw_ki0033_01, List.getElem?_cons_succ, List.getElem?_cons_zero, Option.getD_some] at h1
  have m1 := List.mem_cons_of_mem (30, tabObj ps) h1
  have m2 := List.mem_cons_of_mem (30, tabObj ps) h2
  have m5 := List.mem_cons_of_mem (30, tabObj ps) h5
  have m6 := List.mem_cons_of_mem (30, tabObj ps) h6
  refine wpAny_call ?_
  w_strict (k_dflt (refine' kdv_code ?k1 ?k2 ?k3 ?k4 ?k5 ?kA ?kF ?kK ?k6 ?k7 ?k8 ?k9 ?kB ?_ ?c2 ?c3 ?c4 ?c5; (case kA => exact rfl); (case kF => exact rfl); (case kK => assumption); (case k1 => k_asm); (case k2 => k_asm); (case k3 => k_asm); (case k4 => k_asm); (case k5 => k_asm); (case k6 => exact m1); (case k7 => exact codeRec_news N m2 h3 h4); (case k8 => ktr_room); (case k9 => kdv_bind); (case c5 => decide); (case kB => exact locs rfl); (case c2 => exact rfl); (case c3 => exact rfl); (case c4 => exact rfl); k_whole; intro g' L' h' FG' F' N' B' X' T'; (try dsimp only); (try k_fold)))
  w_strict k_steps
  rename IsRange _ _ _ _ _ _ _ _ => hR
  have e0 : (if (c.length : Int) < 0 then (c.length : Int) else 0) = 0 := if_neg (by omega)
  rw [e0] at hR
  obtain ⟨A, hA0⟩ : ∃ A : Int, A = 0 := ⟨0, rfl⟩
  rw [← hA0] at hR hret
  have hmin : 0 ≤ A ∧ A ≤ c.length := by omega
  refine loop_st (stored := ["place", "behind"]) (P := fun i news₁ => news₁ = (30, tabObj ps) :: rest ∧ ∀ k, A ≤ k → k < A + i → reach c e k < 0) rfl hR (small_one (by omega) (by omega) (by omega) (by omega)) (rangeSize_nat _ _) (by assumption) (by assumption) ⟨rfl, fun k h1 h2 => by omega⟩ ?turn ?done
  case turn =>
    rintro i ti I um news₁ h9 tk9 hi ⟨rfl, hP⟩ F9 N9 hne hlt
    have mE := List.mem_cons_of_mem (I, riter (A + i + 1) (((c.length + 1 - A).toNat : Int) - i - 1)) m6
    have hT9 : HitTab ps ([(I, riter (A + i + 1) (((c.length + 1 - A).toNat : Int) - i - 1))] ++ rest) := HT.mono fun p hp => List.mem_append_right _ hp
    have h39 : ∀ p ∈ [(I, riter (A + i + 1) (((c.length + 1 - A).toNat : Int) - i - 1))] ++ rest, p.1 ≠ 30 := fun p hp => by
      rcases List.mem_append.mp hp with hp | hp
      · rw [List.mem_singleton.mp hp]; exact (hne _ (.head _)).symm
      · exact hr30 p hp
    w_strict k_steps
    · exact hret.hit (A + i) _ _ _ _ _ (by omega) (by omega) hP (by assumption) (by k_asm) (by assumption) (sub_app (by assumption)) (by assumption) (by assumption) (by assumption)
    · refine turn_end (by assumption) (by assumption) hne ?_ ⟨rfl, fun k h1 h2 => ?_⟩
      · intro z h3
        have h4 := h3
        simp only [List.contains_cons, List.contains_nil, Bool.or_false, Bool.or_eq_false_iff, beq_eq_false_iff_ne, ne_eq] at h4
        simp only [h3, h4, if_false, Bool.false_eq_true]
      · by_cases h5 : k < A + i
        · exact hP k h1 h5
        · have h6 : k = A + i := by omega
          subst h6
          omega
  case done =>
    rintro um news₁ h9 tk9 ⟨rfl, hP⟩ F9 N9
    w_strict k_steps
    exact hret.miss _ _ _ _ (fun k h1 h2 => hP k h1 (by omega)) (by k_asm) (by assumption) (fun p hp => hp) hr30 HT
end Mine

/- part: Span -/
namespace Mine
/-- the parts of a hit that span() reads -/
def IsSpan (pm : Value) (news : List (Addr × Obj)) (g : Addr) (i j : Int) : Prop :=
  ∃ c2 ct2 a1 a2 o1 o2 ti tj, (g, spanFn pm a1 a2 c2 ct2) ∈ news ∧ LamCode news c2 ∧ (a1, o1) ∈ news ∧ o1.data = .cell (some (.int i ti)) ∧ (a2, o2) ∈ news ∧ o2.data = .cell (some (.int j tj))
abbrev tupObj (vs : List Value) : Obj := { cls := .type "tuple", data := .seq vs.toArray }
local macro_rules | `(tactic| walk_at "eval Name") => `(tactic| (k_here; k_dflt (refine' nameX_F ?N ?c ?m ?d ?_ ?a ?b; (case a => rfl); (case b => rfl); (case c => rfl); (case N => k_asm); (case m => assumption); (case d => assumption); k_whole)))
theorem span_call : ∀ {w : World} {pp : Program} {lo : List Str} {mean : ExcName → Option Value} {mg mb : Str → Option Value} {dp un : Nat} {gd : Option (List Code)} {cn : Str} {cs : Scope} {a : Addr} {ccd : Value} {cl : List (Str × Addr)} {outer : List Env} {A₀ : Around} {base h₀ : Heap} {L : Addr} {m : Str → Option Value} {news : List (Addr × Obj)} {s : Shared} {Q E : Value → Shared → Prop}
    {pm : Value} {g : Addr} {i j : Int},
    Below A₀ base outer h₀ → Fr h₀ L s.heap m → (hd.heap_39 w.params).In h₀ → News h₀ L s.heap news → Top pp lo mean mg mb h₀ → cs.kind = .function →
    dp + 10 < recursionLimit → un + 100 < cLine → IsSpan pm news g i j →
    (∀ T ti tj h' tk', Fr h₀ L h' m → News h₀ L h' ((T, tupObj [.int i ti, .int j tj]) :: news) → (∀ p ∈ news, p.1 < T) → Q (.ref T) { s with heap := h', toks := tk' }) →
    wpAny (model PySem.Challenge.rw_ki0033_01.row.prog w) (ktrTop dp un gd cn cs L a ccd cl outer) (call (.ref g) []) Q E s := by
  k_fill
  w_top off
  intro w pp lo mean mg mb dp un gd cn cs a ccd cl outer A₀ base h₀ L m news s Q E pm g i j B F X N T hk hdp hun hS hret
  obtain ⟨c2, ct2, a1, a2, o1, o2, ti, tj, h1, ⟨oc, vs, t, h2, h3, h4⟩, h5, h6, h7, h8⟩ := hS
  dsimp only [spanFn, spanLam, hitDef, fnBody, lamArgs, lamBody, lamScope, PySem.Challenge.pw_ki0033_01, List.getElem?_cons_succ, List.getElem?_cons_zero, Option.getD_some] at h1
  refine wpAny_call ?_
  w_strict (k_dflt (refine' kla_code ?k1 ?k2 ?k3 ?k4 ?k5 ?kA ?kF ?kK ?k6 ?k7 ?k8 ?k9 ?kB ?_ ?c2 ?c3 ?c4 ?c5; (case kA => exact rfl); (case kF => exact rfl); (case kK => assumption); (case k1 => k_asm); (case k2 => k_asm); (case k3 => k_asm); (case k4 => k_asm); (case k5 => k_asm); (case k6 => exact h1); (case k7 => exact codeRec_news N h2 h3 h4); (case k8 => ktr_room); (case k9 => exact rfl); (case c5 => decide); (case kB => exact locs rfl); (case c2 => exact rfl); (case c3 => exact rfl); (case c4 => exact rfl); k_whole; intro g' L' h' FG' F' N' B' X' T'; (try dsimp only); (try k_fold)))
  w_strict k_steps
  exact hret _ _ _ _ _ (by k_asm) (by assumption) (by assumption)
end Mine

/- part: Plain -/
namespace Mine
/-- the steps whose place lies before k -/
noncomputable def S (r : Int → Int) : Nat → List (Int × Int)
  | 0 => []
  | k + 1 => if 0 ≤ r k ∧ (S r k).filter (fun st => decide ((k : Int) < st.2)) = [] then S r k ++ [((k : Int), r k)] else S r k
def Good (r : Int → Int) (n : Nat) : Prop := ∀ k : Int, 0 ≤ k → k ≤ n → 0 ≤ r k → k ≤ r k ∧ r k ≤ n
def okStep (col : Int) (st : Int × Int) : Bool := decide (st.1 < col) && decide (st.2 ≤ col)
noncomputable def due (r : Int → Int) (n : Nat) (col : Int) : List (Int × Int) := (S r (n + 1)).filter (okStep col)
variable {r : Int → Int} {n : Nat}
theorem S_neg {k : Nat} (h : r k < 0) : S r (k + 1) = S r k := by
  rw [S, if_neg]; omega
theorem S_blocked {k : Nat} {st : Int × Int} (hm : st ∈ S r k) (h : (k : Int) < st.2) : S r (k + 1) = S r k := by
  rw [S, if_neg]
  rintro ⟨_, h2⟩
  have : st ∈ (S r k).filter (fun st => decide ((k : Int) < st.2)) := List.mem_filter.mpr ⟨hm, by simpa using h⟩
  rw [h2] at this
  cases this
theorem S_open {k : Nat} (h0 : 0 ≤ r k) (h : ∀ st ∈ S r k, st.2 ≤ k) : S r (k + 1) = S r k ++ [((k : Int), r k)] := by
  rw [S, if_pos]
  refine ⟨h0, ?_⟩
  rw [List.filter_eq_nil_iff]
  intro st hs
  have := h st hs
  simp; omega
theorem S_skip {p : Nat} : ∀ (d : Nat), (∀ k : Nat, p ≤ k → k < p + d → r k < 0) → S r (p + d) = S r p
  | 0, _ => rfl
  | d + 1, h => by
    rw [show p + (d + 1) = (p + d) + 1 from rfl, S_neg (h (p + d) (by omega) (by omega))]
    exact S_skip d fun k h1 h2 => h k h1 (by omega)
theorem S_adv {p i : Nat} {acc : List (Int × Int)} (hS : S r p = acc) (he : ∀ st ∈ acc, st.2 ≤ p) (hpi : p ≤ i) (hneg : ∀ k : Nat, p ≤ k → k < i → r k < 0) (h0 : 0 ≤ r i) : S r (i + 1) = acc ++ [((i : Int), r i)] := by
  obtain ⟨d, rfl⟩ : ∃ d, i = p + d := ⟨i - p, by omega⟩
  have e := S_skip (r := r) (p := p) d (fun k h1 h2 => hneg k h1 h2)
  have e2 : S r (p + d) = acc := e.trans hS
  rw [S_open h0 (fun st hs => by rw [e2] at hs; have := he st hs; omega), e2]
theorem S_end {p : Nat} {acc : List (Int × Int)} (hS : S r p = acc) (hp : p ≤ n + 1) (hneg : ∀ k : Nat, p ≤ k → k ≤ n → r k < 0) : S r (n + 1) = acc := by
  obtain ⟨d, hd⟩ : ∃ d, n + 1 = p + d := ⟨n + 1 - p, by omega⟩
  rw [hd, S_skip d (fun k h1 h2 => hneg k h1 (by omega)), hS]
theorem S_hold {i : Nat} {j : Int} {acc : List (Int × Int)} (hS : S r (i + 1) = acc ++ [((i : Int), j)]) : ∀ (d : Nat), ((i + 1 + d : Nat) : Int) ≤ j ∨ d = 0 → S r (i + 1 + d) = acc ++ [((i : Int), j)]
  | 0, _ => hS
  | d + 1, h => by
    have ih := S_hold hS d (by omega)
    rw [show i + 1 + (d + 1) = (i + 1 + d) + 1 from rfl, S_blocked (st := ((i : Int), j)) (by rw [ih]; simp) (by show ((i + 1 + d : Nat) : Int) < j; omega), ih]
/-- what may follow a step -/
theorem S_later {i : Nat} {j : Int} {acc : List (Int × Int)} (hg : Good r n) (hS : S r (i + 1) = acc ++ [((i : Int), j)]) : ∀ (d : Nat), i + 1 + d ≤ n + 1 → ∃ later, S r (i + 1 + d) = acc ++ ((i : Int), j) :: later ∧ ∀ st ∈ later, (i : Int) < st.1 ∧ j ≤ st.1 ∧ st.1 ≤ st.2
  | 0, _ => ⟨[], hS, fun _ h => nomatch h⟩
  | d + 1, h => by
    obtain ⟨later, e, hl⟩ := S_later hg hS d (by omega)
    by_cases hc : 0 ≤ r ((i + 1 + d : Nat) : Int) ∧ (S r (i + 1 + d)).filter (fun st => decide (((i + 1 + d : Nat) : Int) < st.2)) = []
    · refine ⟨later ++ [(((i + 1 + d : Nat) : Int), r ((i + 1 + d : Nat) : Int))], ?_, ?_⟩
      · rw [show i + 1 + (d + 1) = (i + 1 + d) + 1 from rfl, S, if_pos hc, e]; simp
      · intro st hs
        rcases List.mem_append.mp hs with hs | hs
        · exact hl st hs
        · rw [List.mem_singleton.mp hs]
          have hj : ¬ (((i + 1 + d : Nat) : Int) < j) := by
            intro hlt
            have : ((i : Int), j) ∈ (S r (i + 1 + d)).filter (fun st => decide (((i + 1 + d : Nat) : Int) < st.2)) := List.mem_filter.mpr ⟨by rw [e]; simp, by simpa using hlt⟩
            rw [hc.2] at this
            cases this
          have := hg ((i + 1 + d : Nat) : Int) (by omega) (by omega) hc.1
          exact ⟨by show (i : Int) < ((i + 1 + d : Nat) : Int); omega, by show j ≤ ((i + 1 + d : Nat) : Int); omega, this.1⟩
    · refine ⟨later, ?_, hl⟩
      rw [show i + 1 + (d + 1) = (i + 1 + d) + 1 from rfl, S, if_neg hc, e]
theorem S_mem (hg : Good r n) : ∀ {k : Nat}, k ≤ n + 1 → ∀ st ∈ S r k, 0 ≤ st.1 ∧ st.1 < k ∧ st.1 ≤ st.2 ∧ st.2 ≤ n
  | 0, _, _, h => nomatch h
  | k + 1, hk, st, h => by
    rw [S] at h
    split at h
    · rename_i hc
      rcases List.mem_append.mp h with h | h
      · have := S_mem hg (k := k) (by omega) st h; omega
      · rw [List.mem_singleton.mp h]
        have := hg k (by omega) (by omega) hc.1
        refine ⟨?_, ?_, this.1, this.2⟩ <;> omega
    · have := S_mem hg (k := k) (by omega) st h; omega
/-- where the walk over the matches stands: acc lies behind, (i, j) is at hand -/
structure Run (r : Int → Int) (n : Nat) (col : Int) (acc : List (Int × Int)) (i j : Int) : Prop where
  i0 : 0 ≤ i
  ij : i ≤ j
  jn : j ≤ n
  steps : S r (i.toNat + 1) = acc ++ [(i, j)]
  ok : ∀ st ∈ acc, okStep col st = true
theorem Run.start {col i : Int} (hg : Good r n) (h0 : 0 ≤ i) (hn : i ≤ n) (hneg : ∀ k, 0 ≤ k → k < i → r k < 0) (hr : 0 ≤ r i) : Run r n col [] i (r i) := by
  have h := hg i h0 hn hr
  refine ⟨h0, h.1, h.2, ?_, fun _ h => nomatch h⟩
  have e : ((i.toNat : Nat) : Int) = i := Int.toNat_of_nonneg h0
  have := S_adv (r := r) (p := 0) (i := i.toNat) (acc := []) rfl (fun _ h => nomatch h) (Nat.zero_le _) (fun k _ h2 => hneg k (by omega) (by omega)) (by rw [e]; exact hr)
  rw [e] at this
  exact this
/-- where the search goes on -/
def onward (i j : Int) : Int := if i = j then j + 1 else j
theorem Run.held {col i j : Int} {acc : List (Int × Int)} (R : Run r n col acc i j) : S r (onward i j).toNat = acc ++ [(i, j)] ∧ i < onward i j := by
  have h1 := R.i0; have h2 := R.ij
  have e : ((i.toNat : Nat) : Int) = i := Int.toNat_of_nonneg h1
  have hs := R.steps
  rw [← e] at hs
  rw [Int.toNat_natCast] at hs
  unfold onward
  split
  · rename_i h3
    refine ⟨?_, by omega⟩
    rw [show (j + 1).toNat = i.toNat + 1 by omega]
    rw [e] at hs; exact hs
  · refine ⟨?_, by omega⟩
    have := S_hold hs (j.toNat - (i.toNat + 1)) (.inl (by omega))
    rw [show i.toNat + 1 + (j.toNat - (i.toNat + 1)) = j.toNat by omega, e] at this
    exact this
theorem Run.next {col i j i' : Int} {acc : List (Int × Int)} (hg : Good r n) (R : Run r n col acc i j) (hok : okStep col (i, j) = true) (hle : onward i j ≤ i') (hn : i' ≤ n) (hneg : ∀ k, onward i j ≤ k → k < i' → r k < 0) (hr : 0 ≤ r i') :
    Run r n col (acc ++ [(i, j)]) i' (r i') := by
  obtain ⟨hs, hlt⟩ := R.held
  have h1 := R.i0; have h2 := R.ij
  have hi' : 0 ≤ i' := by omega
  have h := hg i' hi' hn hr
  have e : ((i'.toNat : Nat) : Int) = i' := Int.toNat_of_nonneg hi'
  have eo : (((onward i j).toNat : Nat) : Int) = onward i j := Int.toNat_of_nonneg (by omega)
  have hjo : j ≤ onward i j := by unfold onward; split <;> omega
  have hbound : ∀ st ∈ acc ++ [(i, j)], st.2 ≤ ((onward i j).toNat : Int) := by
    intro st hst
    rw [eo]
    -- all ends lie at or before j
    rw [← R.steps] at hst
    rcases List.mem_append.mp (R.steps ▸ hst) with h9 | h9
    · -- an earlier step: j's own step was let in, so its end lies at or before i
      have hin : st ∈ S r i.toNat := by
        have : S r (i.toNat + 1) = acc ++ [(i, j)] := R.steps
        rw [S] at this
        split at this
        · have e3 := List.append_inj_left' this rfl
          rw [e3]; exact h9
        · rw [this]; exact List.mem_append_left _ h9
      have hcond : 0 ≤ r ((i.toNat : Nat) : Int) ∧ (S r i.toNat).filter (fun st => decide (((i.toNat : Nat) : Int) < st.2)) = [] := by
        apply Classical.byContradiction
        intro hc
        have h7 : S r (i.toNat + 1) = S r i.toNat := by rw [S, if_neg hc]
        have h8 : (i, j) ∈ S r i.toNat := by rw [← h7, R.steps]; simp
        have := S_mem hg (k := i.toNat) (by have := R.jn; omega) (i, j) h8
        have h10 : i < i.toNat := this.2.1
        omega
      have : ¬ (((i.toNat : Nat) : Int) < st.2) := by
        intro hlt'
        have : st ∈ (S r i.toNat).filter (fun st => decide (((i.toNat : Nat) : Int) < st.2)) := List.mem_filter.mpr ⟨hin, by simpa using hlt'⟩
        rw [hcond.2] at this
        cases this
      omega
    · rw [List.mem_singleton.mp h9]; exact hjo
  refine ⟨hi', h.1, h.2, ?_, ?_⟩
  · have := S_adv (r := r) (p := (onward i j).toNat) (i := i'.toNat) hs hbound (by omega) (fun k a b => hneg k (by omega) (by omega)) (by rw [e]; exact hr)
    rw [e] at this
    exact this
  · intro st hst
    rcases List.mem_append.mp hst with h9 | h9
    · exact R.ok st h9
    · rw [List.mem_singleton.mp h9]; exact hok
theorem Run.last {col i j : Int} {acc : List (Int × Int)} (R : Run r n col acc i j) (hok : okStep col (i, j) = true) (hle : onward i j ≤ n + 1) (hneg : ∀ k, onward i j ≤ k → k ≤ n → r k < 0) : due r n col = acc ++ [(i, j)] := by
  obtain ⟨hs, hlt⟩ := R.held
  have h1 := R.i0
  have := S_end (n := n) hs (by omega) (fun k a b => hneg k (by omega) (by omega))
  unfold due
  rw [this, List.filter_eq_self]
  intro st hst
  rcases List.mem_append.mp hst with h9 | h9
  · exact R.ok st h9
  · rw [List.mem_singleton.mp h9]; exact hok
theorem Run.stop {col i j : Int} {acc : List (Int × Int)} (hg : Good r n) (R : Run r n col acc i j) (hno : okStep col (i, j) = false) : due r n col = acc := by
  have h1 := R.i0; have h2 := R.ij; have h3 := R.jn
  have e : ((i.toNat : Nat) : Int) = i := Int.toNat_of_nonneg h1
  have hs := R.steps
  rw [← e] at hs
  rw [Int.toNat_natCast] at hs
  obtain ⟨later, el, hl⟩ := S_later hg hs (n - i.toNat) (by omega)
  rw [show i.toNat + 1 + (n - i.toNat) = n + 1 by omega, e] at el
  unfold due
  rw [el, List.filter_append, List.filter_cons, if_neg (by rw [hno]; simp)]
  have ea : acc.filter (okStep col) = acc := List.filter_eq_self.mpr R.ok
  have eb : later.filter (okStep col) = [] := by
    rw [List.filter_eq_nil_iff]
    intro st hst hc
    have h := hl st hst
    unfold okStep at hc hno
    simp only [Bool.and_eq_true, decide_eq_true_eq, Bool.and_eq_false_iff, decide_eq_false_iff_not] at hc hno
    omega
  rw [ea, eb, List.append_nil]
theorem S_length : ∀ k : Nat, (S r k).length ≤ k
  | 0 => Nat.le_refl _
  | k + 1 => by
    have := S_length k
    rw [S]
    split
    · rw [List.length_append, List.length_singleton]; omega
    · omega
theorem due_none {col : Int} (hneg : ∀ k : Int, 0 ≤ k → k ≤ n → r k < 0) : due r n col = [] := by
  unfold due
  rw [S_end (n := n) (p := 0) (acc := []) rfl (Nat.zero_le _) (fun k _ b => hneg k (by omega) (by omega))]
  rfl
end Mine

/- part: Rev -/
namespace Mine
theorem reach_good (c : Str) (e : Bool) : Good (reach c e) c.length := by
  intro k h0 hn hr
  unfold reach at hr ⊢
  split at hr
  · rename_i h1
    rw [if_pos h1]
    cases e <;> simp at hr ⊢ <;> omega
  · rename_i h1
    rw [if_neg h1]
    split at hr
    · rename_i h2
      rw [if_pos h2]
      split <;> omega
    · omega
noncomputable abbrev progLam : Stmt := ((fnBody progDef)[1]?).getD (.Pass default)
noncomputable abbrev progQual : Str := ("_law_prog" : Str) ++ ".<locals>." ++ "<lambda>"
noncomputable abbrev progFn (pm : Value) (c : Addr) (ct : Value) (dx : Addr) : Obj :=
  { kla_obj "<lambda>" progQual (lamArgs progLam) (lamBody progLam) (lamScope progLam) [] pm c ct with dict := some dx }
def IsProg (pm : Value) (news : List (Addr × Obj)) (f : Addr) (e : Bool) : Prop :=
  ∃ dx od fs c ct, (f, progFn pm c ct dx) ∈ news ∧ (dx, od) ∈ news ∧ LCg.NsObj od (fun y => if y = "search" then some (.ref fs) else none) ∧ IsSearch pm news fs e
theorem IsProg.mono {pm : Value} {news news' : List (Addr × Obj)} {f : Addr} {e : Bool} (h : IsProg pm news f e) (hs : ∀ p ∈ news, p ∈ news') : IsProg pm news' f e := by
  obtain ⟨dx, od, fs, c, ct, h1, h2, h3, h4⟩ := h
  exact ⟨dx, od, fs, c, ct, hs _ h1, hs _ h2, h3, h4.mono hs⟩
section
variable {prog : Program} {w : World} {A : Around} {E : Value → Shared → Prop} {s : Shared} {h₀ : Heap} {L f : Addr} {x : Addr × Obj} {rest : List (Addr × Obj)} {pm : Value} {i j : Int} {e : Bool}
theorem meth_span {pl : Sem Bool} {Q : Value × List Value → Shared → Prop} (N : News h₀ L s.heap (x :: rest)) (H : IsHit pm rest f i j) (h : ∀ g, IsSpan pm (x :: rest) g i j → Q (.ref g, []) { s with toks := s.toks + 1 }) :
    wpAny (model prog w) A (getMethod (.ref f) "span" pl) Q E s := by
  obtain ⟨dx, od, g, c1, ct1, c2, ct2, a1, a2, o1, o2, ti, tj, h1, h2, h3, h4, h5, h6, h7, h8, h9⟩ := H
  have up : ∀ p ∈ rest, p ∈ x :: rest := fun p hp => .tail _ hp
  exact methFn_K N (up _ h1) rfl (fun c h => by cases h) rfl (up _ h2) h3 lk_fn_span (by simp) rfl (h g ⟨c2, ct2, a1, a2, o1, o2, ti, tj, up _ h4, h5.mono up, up _ h6, h7, up _ h8, h9⟩)
theorem meth_search {pl : Sem Bool} {Q : Value × List Value → Shared → Prop} (N : News h₀ L s.heap (x :: rest)) (H : IsProg pm rest f e) (h : ∀ g, IsSearch pm rest g e → Q (.ref g, []) { s with toks := s.toks + 1 }) :
    wpAny (model prog w) A (getMethod (.ref f) "search" pl) Q E s := by
  obtain ⟨dx, od, fs, c, ct, h1, h2, h3, h4⟩ := H
  have up : ∀ p ∈ rest, p ∈ x :: rest := fun p hp => .tail _ hp
  exact methFn_K N (up _ h1) rfl (fun c h => by cases h) rfl (up _ h2) h3 lk_fn_search (by simp) rfl (h fs h4)
theorem truth_hit {Q : Bool → Shared → Prop} (N : News h₀ L s.heap (x :: rest)) (H : IsHit pm rest f i j) (h : Q true s) : wpAny (model prog w) A (truthy (.ref f)) Q E s := by
  obtain ⟨dx, od, g, c1, ct1, c2, ct2, a1, a2, o1, o2, ti, tj, h1, _⟩ := H
  exact truthFn_K N (.tail _ h1) rfl h
theorem fn_search {h : Heap} (N : News h₀ L h (x :: rest)) (H : IsSearch pm rest f e) : FnAt f h := by
  obtain ⟨ce, oce, tD, t0, dc, cS, oc, vs, t, ct, h1, _⟩ := H
  exact FnAt.of N (.tail _ h1)
theorem fn_span {h : Heap} (N : News h₀ L h rest) (H : IsSpan pm rest f i j) : FnAt f h := by
  obtain ⟨c2, ct2, a1, a2, o1, o2, ti, tj, h1, _⟩ := H
  exact FnAt.of N h1
end
/-- a while put aside -/
def WhileAside (prog : Program) (w : World) (A : Around) (test : PySem.Expr) (body : List Stmt) (pos : Pos) (env : Env) (Q : Flow → Shared → Prop) (E : Value → Shared → Prop) (s : Shared) : Prop := wpAny (model prog w) A (exec (.While test body [] pos) env) Q E s
theorem while_aside {prog : Program} {w : World} {A : Around} {test : PySem.Expr} {body : List Stmt} {pos : Pos} {env : Env} {Q : Flow → Shared → Prop} {E : Value → Shared → Prop} {s : Shared} (h : WhileAside prog w A test body pos env Q E s) : wpAny (model prog w) A (exec (.While test body [] pos) env) Q E s := h
def FoundIs (pm : Value) (rest : List (Addr × Obj)) (v : Value) (acc : List (Int × Int)) : Prop := (acc = [] ∧ v = .none) ∨ ∃ pre a b f, acc = pre ++ [(a, b)] ∧ v = .ref f ∧ IsHit pm rest f a b
/-- what search_reverse leaves -/
def RevRet (pm : Value) (h₀ : Heap) (L : Addr) (m : Str → Option Value) (rest : List (Addr × Obj)) (s : Shared) (D : List (Int × Int)) (Q : Value → Shared → Prop) : Prop :=
  ∀ v ps' rest' h' tk', FoundIs pm rest' v D → Fr h₀ L h' m → News h₀ L h' ((30, tabObj ps') :: rest') → (∀ p ∈ rest, p ∈ rest') → (∀ p ∈ rest', p.1 ≠ 30) → HitTab ps' rest' → Q v { s with heap := h', toks := tk' }
/-- the loop's state -/
structure RS where
  ps : Array Value
  rest : List (Addr × Obj)
  fM : Addr
  vF : Value
  i : Int
  ti : Tok
  j : Int
  tj : Tok
  acc : List (Int × Int)
structure RP (pm : Value) (rest₀ : List (Addr × Obj)) (r : Int → Int) (n : Nat) (col : Int) (c : RS) : Prop where
  tab : HitTab c.ps c.rest
  off : ∀ p ∈ c.rest, p.1 ≠ 30
  sub : ∀ p ∈ rest₀, p ∈ c.rest
  hit : IsHit pm c.rest c.fM c.i c.j
  found : FoundIs pm c.rest c.vF c.acc
  run : Run r n col c.acc c.i c.j
theorem rp_start {pm : Value} {rest₀ rest' : List (Addr × Obj)} {r : Int → Int} {n : Nat} {col i : Int} {ps' : Array Value} {f : Addr} {ti tj : Tok} (H : IsHit pm rest' f i (r i)) (tab : HitTab ps' rest') (off : ∀ p ∈ rest', p.1 ≠ 30) (sub : ∀ p ∈ rest₀, p ∈ rest') (hg : Good r n) (h0 : 0 ≤ i) (hn : i ≤ n)
    (hneg : ∀ k, 0 ≤ k → k < i → r k < 0) (hr : 0 ≤ r i) : RP pm rest₀ r n col ⟨ps', rest', f, .none, i, ti, r i, tj, []⟩ := ⟨tab, off, sub, H, .inl ⟨rfl, rfl⟩, Run.start hg h0 hn hneg hr⟩
section
variable {pm : Value} {rest₀ rest1 rest' : List (Addr × Obj)} {r : Int → Int} {n : Nat} {col i1 j1 i' A : Int} {ps1 ps' : Array Value} {fM f' : Addr} {vF : Value} {ti1 tj1 ti' tj' : Tok} {acc : List (Int × Int)}
theorem ok_of (h1 : i1 < col) (h2 : j1 ≤ col) : okStep col (i1, j1) = true := by unfold okStep; simp [h1, h2]
theorem rp_next (H : IsHit pm rest' f' i' (r i')) (R : RP pm rest₀ r n col ⟨ps1, rest1, fM, vF, i1, ti1, j1, tj1, acc⟩) (hg : Good r n) (h1 : i1 < col) (h2 : j1 ≤ col) (tab : HitTab ps' rest') (off : ∀ p ∈ rest', p.1 ≠ 30) (sub : ∀ p ∈ rest1, p ∈ rest')
    (hle : A ≤ i') (hn : i' ≤ n) (hneg : ∀ k, A ≤ k → k < i' → r k < 0) (hr : 0 ≤ r i') (hA : A = onward i1 j1) : RP pm rest₀ r n col ⟨ps', rest', f', .ref fM, i', ti', r i', tj', acc ++ [(i1, j1)]⟩ := by
  subst hA
  exact ⟨tab, off, fun p hp => sub p (R.sub p hp), H, .inr ⟨acc, i1, j1, fM, rfl, rfl, R.hit.mono sub⟩, R.run.next hg (ok_of h1 h2) hle hn hneg hr⟩
theorem rp_less (R : RP pm rest₀ r n col ⟨ps1, rest1, fM, vF, i1, ti1, j1, tj1, acc⟩) (hle : A ≤ i') (hA : A = onward i1 j1) (hn : i' ≤ n) (hn12 : n ≤ 12) : 13 - i'.toNat < 13 - i1.toNat := by
  have h1 := R.run.i0
  have h2 := R.run.held.2
  simp only at h1 h2
  omega
variable {h₀ h' : Heap} {L : Addr} {m : Str → Option Value} {s : Shared} {Q : Value → Shared → Prop} {tk' : Nat}
theorem rp_last (hret : RevRet pm h₀ L m rest₀ s (due r n col) Q) (F : Fr h₀ L h' m) (N : News h₀ L h' ((30, tabObj ps') :: rest')) (R : RP pm rest₀ r n col ⟨ps1, rest1, fM, vF, i1, ti1, j1, tj1, acc⟩) (h1 : i1 < col) (h2 : j1 ≤ col) (hcol : col ≤ n) (tab : HitTab ps' rest') (off : ∀ p ∈ rest', p.1 ≠ 30) (sub : ∀ p ∈ rest1, p ∈ rest')
    (hneg : ∀ k, A ≤ k → k ≤ n → r k < 0) (hA : A = onward i1 j1) : Q (.ref fM) { s with heap := h', toks := tk' } := by
  subst hA
  have hon : onward i1 j1 ≤ n + 1 := by unfold onward; split <;> omega
  have e := R.run.last (ok_of h1 h2) hon hneg
  simp only at e
  refine hret _ _ _ _ _ ?_ F N (fun p hp => sub p (R.sub p hp)) off tab
  rw [e]
  exact .inr ⟨acc, i1, j1, fM, rfl, rfl, R.hit.mono sub⟩
theorem rp_stop (hret : RevRet pm h₀ L m rest₀ s (due r n col) Q) (F : Fr h₀ L h' m) (N : News h₀ L h' ((30, tabObj ps1) :: rest1)) (R : RP pm rest₀ r n col ⟨ps1, rest1, fM, vF, i1, ti1, j1, tj1, acc⟩) (hg : Good r n) (hno : ¬ (i1 < col ∧ j1 ≤ col)) : Q vF { s with heap := h', toks := tk' } := by
  have e := R.run.stop hg (by unfold okStep; simp only [Bool.and_eq_false_iff, decide_eq_false_iff_not]; omega)
  simp only at e
  refine hret _ _ _ _ _ ?_ F N R.sub R.off R.tab
  rw [e]
  exact R.found
end
theorem forall4 {α : Type} {P : α → Prop} {a b c d : α} (h1 : P a) (h2 : P b) (h3 : P c) (h4 : P d) : ∀ p ∈ [a, b, c, d], P p := by
  simp only [List.forall_mem_cons, List.not_mem_nil, false_implies, implies_true, and_true]
  exact ⟨h1, h2, h3, h4⟩
local macro_rules | `(tactic| walk_at "KswEnd") => `(tactic| fail "mine")
local macro_rules | `(tactic| walk_at "exec While") => `(tactic| (k_here; k_dflt (refine while_aside ?_)))
local macro_rules | `(tactic| walk_at "getMethod ref") => `(tactic| (k_here; (with_reducible show wpAny _ _ (getMethod (Value.ref _) (Str.ofString "span") _) _ _ _); k_dflt (refine' meth_span ?N ?H ?_; (case N => k_asm); (case H => assumption); k_whole); intro g9 hS9; (try dsimp only)))
local macro_rules | `(tactic| walk_at "getMethod ref") => `(tactic| (k_here; (with_reducible show wpAny _ _ (getMethod (Value.ref _) (Str.ofString "search") _) _ _ _); k_dflt (refine' meth_search ?N ?H ?_; (case N => k_asm); (case H => assumption); k_whole); intro g9 hS9; (try dsimp only)))
local macro_rules | `(tactic| walk_at "truthy ref") => `(tactic| (k_here; k_dflt (refine' truth_hit ?N ?H ?_; (case N => k_asm); (case H => assumption); k_whole)))
local macro_rules | `(tactic| walk_at "call ref") => `(tactic| (k_here; k_dflt (refine' span_call ?k1 ?k2 ?k3 ?k4 ?k5 ?kK ?kd ?ku ?kS ?_; (case kS => assumption); (case k1 => k_asm); (case k2 => k_asm); (case k3 => k_asm); (case k4 => k_asm); (case k5 => k_asm); (case kK => first | exact rfl | assumption); (case kd => ktr_room); (case ku => ktr_units); k_whole); intro T9 ti9 tj9 h9 tk9 F9 N9 hl9; (try dsimp only); (try k_fold)))
local macro_rules | `(tactic| walk_at "call ref") => `(tactic| (k_here; k_dflt (refine' search_call1 ?k1 ?k2 ?k3 ?k4 ?kT ?kC ?k30 ?k5 ?kK ?kd ?ku ?kS ?p2 ?_; (case kS => assumption); (case k1 => k_asm); (case k2 => k_asm); (case k3 => k_asm); (case k4 => k_asm); (case kT => assumption); (case kC => assumption); (case k30 => assumption); (case k5 => k_asm); (case kK => first | exact rfl | assumption); (case kd => ktr_room); (case ku => ktr_units); (case p2 => omega); k_whole); refine SearchRet.mk ?_ ?_))
local macro_rules | `(tactic| walk_at "call ref") => `(tactic| (k_here; k_dflt (refine' search_call2 ?k1 ?k2 ?k3 ?k4 ?kT ?kC ?k30 ?k5 ?kK ?kd ?ku ?kS ?p0 ?p1 ?p2 ?_; (case kS => assumption); (case k1 => k_asm); (case k2 => k_asm); (case k3 => k_asm); (case k4 => k_asm); (case kT => assumption); (case kC => assumption); (case k30 => assumption); (case k5 => k_asm); (case kK => first | exact rfl | assumption); (case kd => ktr_room); (case ku => ktr_units); (case p0 => omega); (case p1 => omega); (case p2 => omega); k_whole); refine SearchRet.mk ?_ ?_))
local macro_rules | `(tactic| walk_at "callWith ref") => `(tactic| (k_here; k_dflt (first
  | (refine' callWith_F ?k1 ?_; (case k1 => first | exact fn_search (by k_asm) (by assumption) | exact fn_span (by k_asm) (by assumption)); k_whole)
  | (refine' callWith_F0 ?k1 ?_; (case k1 => first | exact fn_search (by k_asm) (by assumption) | exact fn_span (by k_asm) (by assumption)); k_whole; try dsimp only [List.nil_append, List.cons_append]))))
local macro_rules | `(tactic| walk_at "And") => `(tactic| ((with_reducible show FnAt _ _ ∧ _); refine ⟨by first | exact fn_search (by k_asm) (by assumption) | exact fn_span (by k_asm) (by assumption), ?_⟩; (try dsimp only [List.nil_append, List.cons_append])))
theorem rev_call : ∀ {w : World} {pp : Program} {lo : List Str} {mean : ExcName → Option Value} {mg mb : Str → Option Value} {dp un : Nat} {gd : Option (List Code)} {cn : Str} {cs : Scope} {a : Addr} {ccd : Value} {cl : List (Str × Addr)} {outer : List Env} {A₀ : Around} {base h₀ : Heap} {L : Addr} {m : Str → Option Value} {ps : Array Value} {rest : List (Addr × Obj)} {s : Shared} {Q E : Value → Shared → Prop}
    {fP : Addr} {c : Str} {tc : Tok} {col : Int} {tcol : Tok} {e : Bool},
    Below A₀ base outer h₀ → Fr h₀ L s.heap m → (hd.heap_39 w.params).In h₀ → News h₀ L s.heap ((30, tabObj ps) :: rest) → HitTab ps rest → CodeHd base 34 30 → (∀ p ∈ rest, p.1 ≠ 30) → Top pp lo mean mg mb h₀ → cs.kind = .function →
    dp + 40 < recursionLimit → un + 400 < cLine → IsProg ((mg "__name__").getD .none) rest fP e → col ≤ c.length → c.length ≤ 12 →
    RevRet ((mg "__name__").getD .none) h₀ L m rest s (due (reach c e) c.length col) Q →
    wpAny (model PySem.Challenge.rw_ki0033_01.row.prog w) (ktrTop dp un gd cn cs L a ccd cl outer) (call (.ref 21) [.ref fP, .str c tc, .int col tcol]) Q E s := by
  k_fill
  w_top off
  intro w pp lo mean mg mb dp un gd cn cs a ccd cl outer A₀ base h₀ L m ps rest s Q E fP c tc col tcol e B F X N HT CH hr30 T hk hdp hun hS hcol hc hret
  refine wpAny_call ?_
  w_strict (k_dflt ktr_enter)
  w_strict k_steps
  · show wpAny _ _ (exec (.While _ _ [] _) _) _ _ _
    rename IsHit _ _ _ _ _ => hH
    rename Fr _ _ _ _ => hF
    rename News _ _ _ _ => hN
    refine' ksw_while (σ := RS) (fun c => (30, tabObj c.ps) :: c.rest) (fun c => [("m", .ref c.fM), ("found", c.vF), ("i", .int c.i c.ti), ("j", .int c.j c.tj)]) (fun _ => True) [] (RP ((mg "__name__").getD .none) rest (reach c e) c.length col) (fun c => 13 - c.i.toNat) ⟨_, _, _, .none, _, _, _, _, []⟩ hF ?kn trivial ?kk ?kp ?turn
    case kp => exact rp_start hH (by assumption) (by assumption) (by assumption) (reach_good c e) (by assumption) (by assumption) (by assumption) (by assumption)
    case kn => exact fun p hp => hN p (.tail _ hp)
    case kk =>
      exact forall4 (by with_unfolding_all rfl) (by with_unfolding_all rfl) (by with_unfolding_all rfl) (by with_unfolding_all rfl)
    case turn =>
      rintro ⟨ps1, rest1, fM, vF, i1, ti1, j1, tj1, acc⟩ u h9 tk9 _ hp F9 N9
      obtain ⟨HTc, h30c, subc, hitc, fndc, runc⟩ := id hp
      dsimp only at HTc h30c subc hitc fndc runc F9 N9
      have hPc := hS.mono subc
      have r1 := runc.i0
      have r2 := runc.ij
      have r3 := runc.jn
      clear HT hr30 hS hH hF hN
      w_strict k_steps
      · rename IsHit _ _ _ _ _ => hH
        have hA : (if (c.length : Int) < j1 + 1 then (c.length : Int) else j1 + 1) = onward i1 j1 := by unfold onward; rw [if_neg (by omega), if_pos (by assumption)]
        refine' ksw_end ⟨_, _, _, .ref fM, _, _, _, _, acc ++ [(i1, j1)]⟩ (by assumption) (by assumption) ?kn trivial ?kk ?kz ?kp ?km
        case kp => exact rp_next hH hp (reach_good c e) (by assumption) (by assumption) (by assumption) (by assumption) (by assumption) (by assumption) (by assumption) (by assumption) (by assumption) hA
        case km => exact rp_less hp (by assumption) hA (by assumption) hc
        case kn => exact fun p hp => .tail _ hp
        case kz =>
          intro z h2 _
          simp only [List.forall_mem_cons, List.not_mem_nil, false_implies, implies_true, and_true, ne_eq] at h2
          simp only [kstB, h2.1, h2.2.1, h2.2.2.1, h2.2.2.2, if_false, List.contains_nil, Bool.false_eq_true]
        case kk =>
          exact forall4 (by with_unfolding_all rfl) (by with_unfolding_all rfl) (by with_unfolding_all rfl) (by with_unfolding_all rfl)
      · have hA : (if (c.length : Int) < j1 + 1 then (c.length : Int) else j1 + 1) = onward i1 j1 := by unfold onward; rw [if_neg (by omega), if_pos (by assumption)]
        exact rp_last hret (by k_asm) (by assumption) hp (by assumption) (by assumption) hcol (by assumption) (by assumption) (by assumption) (by assumption) hA
      · rename IsHit _ _ _ _ _ => hH
        have hA : (if (c.length : Int) < j1 then (c.length : Int) else j1) = onward i1 j1 := by unfold onward; rw [if_neg (by omega), if_neg (by assumption)]
        refine' ksw_end ⟨_, _, _, .ref fM, _, _, _, _, acc ++ [(i1, j1)]⟩ (by assumption) (by assumption) ?kn trivial ?kk ?kz ?kp ?km
        case kp => exact rp_next hH hp (reach_good c e) (by assumption) (by assumption) (by assumption) (by assumption) (by assumption) (by assumption) (by assumption) (by assumption) (by assumption) hA
        case km => exact rp_less hp (by assumption) hA (by assumption) hc
        case kn => exact fun p hp => .tail _ hp
        case kz =>
          intro z h2 _
          simp only [List.forall_mem_cons, List.not_mem_nil, false_implies, implies_true, and_true, ne_eq] at h2
          simp only [kstB, h2.1, h2.2.1, h2.2.2.1, h2.2.2.2, if_false, List.contains_nil, Bool.false_eq_true]
        case kk =>
          exact forall4 (by with_unfolding_all rfl) (by with_unfolding_all rfl) (by with_unfolding_all rfl) (by with_unfolding_all rfl)
      · have hA : (if (c.length : Int) < j1 then (c.length : Int) else j1) = onward i1 j1 := by unfold onward; rw [if_neg (by omega), if_neg (by assumption)]
        exact rp_last hret (by k_asm) (by assumption) hp (by assumption) (by assumption) hcol (by assumption) (by assumption) (by assumption) (by assumption) hA
      · exact rp_stop hret (by k_asm) (by assumption) hp (reach_good c e) (by omega)
      · exact rp_stop hret (by k_asm) (by assumption) hp (reach_good c e) (by omega)
  · refine hret _ _ _ _ _ ?_ (by k_asm) (by assumption) (by assumption) (by assumption) (by assumption)
    rw [due_none (by assumption)]
    exact .inl ⟨rfl, rfl⟩
end Mine

/- part: Comp -/
namespace Mine
/-- values that are tuples of two ints -/
inductive TupsAre (news : List (Addr × Obj)) : List Value → List (Int × Int) → Prop
  | nil : TupsAre news [] []
  | cons {T : Addr} {a b : Int} {t1 t2 : Tok} {vs : List Value} {ST : List (Int × Int)} : (T, tupObj [.int a t1, .int b t2]) ∈ news → TupsAre news vs ST → TupsAre news (.ref T :: vs) ((a, b) :: ST)
theorem TupsAre.mono {news news' : List (Addr × Obj)} {vs : List Value} {ST : List (Int × Int)} (h : TupsAre news vs ST) (hs : ∀ p ∈ news, p ∈ news') : TupsAre news' vs ST := by
  induction h with
  | nil => exact .nil
  | cons hm _ ih => exact .cons (hs _ hm) ih
theorem TupsAre.snoc {news : List (Addr × Obj)} {vs : List Value} {ST : List (Int × Int)} {T : Addr} {a b : Int} {t1 t2 : Tok} (h : TupsAre news vs ST) (hm : (T, tupObj [.int a t1, .int b t2]) ∈ news) : TupsAre news (vs ++ [.ref T]) (ST ++ [(a, b)]) := by
  induction h with
  | nil => exact .cons hm .nil
  | cons hm' _ ih => exact .cons hm' ih
theorem TupsAre.length {news : List (Addr × Obj)} {vs : List Value} {ST : List (Int × Int)} (h : TupsAre news vs ST) : vs.length = ST.length := by
  induction h with
  | nil => rfl
  | cons _ _ ih => rw [List.length_cons, List.length_cons, ih]
theorem TupsAre.split {news : List (Addr × Obj)} {vs : List Value} : ∀ {A B : List (Int × Int)}, TupsAre news vs (A ++ B) → ∃ va vb, vs = va ++ vb ∧ TupsAre news va A ∧ TupsAre news vb B := by
  intro A
  induction A generalizing vs with
  | nil => intro B h; exact ⟨[], vs, rfl, .nil, h⟩
  | cons p A ih =>
    intro B h
    cases h with
    | cons hm h' =>
      obtain ⟨va, vb, e, h1, h2⟩ := ih h'
      exact ⟨_ :: va, vb, by rw [e]; rfl, .cons hm h1, h2⟩
def pairD (p : Int × Int) : Dat := .tuple [.int p.1, .int p.2]
theorem TupsAre.dat {news : List (Addr × Obj)} {vs : List Value} {ST : List (Int × Int)} (h : TupsAre news vs ST) : DatAll news vs (ST.map pairD) := by
  induction h with
  | nil => exact .nil
  | cons hm _ ih => exact .cons (.tuple (n := 0) hm (.cons (.int _ _) (.cons (.int _ _) .nil))) ih
theorem pairD_ok (ST : List (Int × Int)) : ∀ d ∈ ST.map pairD, kqdOk 8 d = true := by
  intro d hd
  obtain ⟨p, _, rfl⟩ := List.mem_map.mp hd
  rfl
theorem pairD_inj {A B : List (Int × Int)} : A.map pairD = B.map pairD ↔ A = B := by
  constructor
  · intro h
    induction A generalizing B with
    | nil => cases B with
      | nil => rfl
      | cons _ _ => cases h
    | cons a A ih => cases B with
      | nil => cases h
      | cons b B =>
        rw [List.map_cons, List.map_cons, List.cons.injEq] at h
        have h1 := h.1
        unfold pairD at h1
        simp only [Dat.tuple.injEq, List.cons.injEq, Dat.int.injEq, and_true] at h1
        rw [ih h.2, show a = b from Prod.ext h1.1 h1.2]
  · intro h; rw [h]
section
variable {prog : Program} {w : World} {A : Around} {h₀ : Heap} {L : Addr} {m : Str → Option Value} {env : Env} {ct elt : PySem.Expr} {x : Str} {scope : Scope} {cl : List (Str × Addr)} {s : Shared} {S : List (Addr × Obj) → Prop} {P : Nat → Value → Prop} {Fin : List Value → List (Addr × Obj) → Prop} {news : List (Addr × Obj)}
/-- a turn of a filter leaves all as it was -/
def Kept (h₀ : Heap) (L : Addr) (m : Str → Option Value) (s₁ : Shared) (all : List (Addr × Obj)) (φ : Prop) (v y : Value) (s₂ : Shared) : Prop :=
  φ ∧ y = v ∧ ∃ h' tk, s₂ = { s₁ with heap := h', toks := tk } ∧ Fr h₀ L h' m ∧ News h₀ L h' all
theorem Kept.intro {s₁ : Shared} {all : List (Addr × Obj)} {φ : Prop} {v : Value} {h' : Heap} {tk : Nat} (F : Fr h₀ L h' m) (N : News h₀ L h' all) (hφ : φ) : Kept h₀ L m s₁ all φ v v { s₁ with heap := h', toks := tk } := ⟨hφ, rfl, h', tk, rfl, F, N⟩
theorem comp_filter (q : Int × Int → Bool) {bs : List (Addr × Obj)} {vs : List Value} {ST : List (Int × Int)} (hT : TupsAre bs vs ST) (hP : ∀ i v, P i v → vs[i]? = some v) (hS : S news)
    (turn : ∀ a b T t1 t2 I oI C oC D m₂ ys h tk (E' : Value → Shared → Prop), (T, tupObj [.int a t1, .int b t2]) ∈ bs → LCg.NsObj oC m₂ → m₂ x = some (.ref T) → Fr h₀ L h m → News h₀ L h ((I, oI) :: (C, oC) :: (D, LCg.lst ys) :: news) →
      wpAny (model prog w) A (isTrue ct (compEnvC scope cl C env) (eval ct (compEnvC scope cl C env))) (fun ok s' => if ok = true then
        wpAny (model prog w) A (eval elt (compEnvC scope cl C env)) (Kept h₀ L m { s with heap := h, toks := tk } ((I, oI) :: (C, oC) :: (D, LCg.lst ys) :: news) (q (a, b) = true) (.ref T)) E' s'
        else Kept h₀ L m { s with heap := h, toks := tk } ((I, oI) :: (C, oC) :: (D, LCg.lst ys) :: news) (q (a, b) = false) .none .none s') E' { s with heap := h, toks := tk })
    (fin : ∀ ys, TupsAre bs ys (ST.filter q) → Fin ys news) : LCt.CompRestT prog w A h₀ L m env ct elt x scope cl s S P Fin vs.length 0 [] news := by
  have key : ∀ (vs1 vs2 : List Value) (S1 S2 : List (Int × Int)) (ys : List Value), vs = vs1 ++ vs2 → ST = S1 ++ S2 → TupsAre bs vs2 S2 → TupsAre bs ys (S1.filter q) → LCt.CompRestT prog w A h₀ L m env ct elt x scope cl s S P Fin vs2.length vs1.length ys news := by
    intro vs1 vs2
    induction vs2 generalizing vs1 with
    | nil =>
      intro S1 S2 ys e1 e2 h2 hy
      cases h2
      rw [List.append_nil] at e2
      exact LCt.CompRestT.zero (fin ys (e2 ▸ hy))
    | cons v vs2 ih =>
      intro S1 S2 ys e1 e2 h2 hy
      cases h2 with
      | @cons T a b t1 t2 _ S2 hm h2 =>
      refine LCt.CompRestT.succ ?_
      intro v' I oI C oC D m₂ h tk E' hv hC hx F N off ne
      have hv' : v' = .ref T := by
        have := hP _ _ hv
        rw [e1] at this
        simpa using this.symm
      subst hv'
      have step := fun (y : List Value) (S' : List (Int × Int)) (hq : S' = [(a, b)].filter q) (hy' : TupsAre bs y (S1.filter q ++ S')) =>
        ih (vs1 ++ [.ref T]) (S1 ++ [(a, b)]) S2 y (by rw [e1]; simp) (by rw [e2]; simp) h2 (by rw [List.filter_append, ← hq]; exact hy')
      have el : (vs1 ++ [Value.ref T]).length = vs1.length + 1 := by simp
      rw [el] at step
      refine wpAny_mono (turn a b T t1 t2 I oI C oC D m₂ ys h tk E' hm hC hx F N) (fun ok s' hq => ?_) fun _ _ e => e
      cases ok with
      | true =>
        simp only [if_true] at hq ⊢
        refine wpAny_mono hq (fun y s₂ hk => ?_) fun _ _ e => e
        obtain ⟨hφ, rfl, h', tk', rfl, F', N'⟩ := hk
        exact ⟨h', tk', news, rfl, F', N', off, hS, step _ [(a, b)] (by rw [List.filter_cons, hφ]; rfl) (hy.snoc hm)⟩
      | false =>
        simp only [Bool.false_eq_true, if_false] at hq ⊢
        obtain ⟨hφ, _, h', tk', rfl, F', N'⟩ := hq
        exact ⟨h', tk', news, rfl, F', N', off, hS, step _ [] (by rw [List.filter_cons, hφ]; rfl) (by rw [List.append_nil]; exact hy)⟩
  exact key [] vs [] ST [] rfl rfl hT .nil
end
section
variable {h₀ h : Heap} {L : Addr} {a b c d : Addr × Obj} {r : List (Addr × Obj)}
theorem mem_first (_ : News h₀ L h (a :: r)) : a ∈ a :: r := .head _
theorem mem_second (_ : News h₀ L h (a :: b :: r)) : b ∈ a :: b :: r := .tail _ (.head _)
theorem mem_third (_ : News h₀ L h (a :: b :: c :: r)) : c ∈ a :: b :: c :: r := .tail _ (.tail _ (.head _))
theorem mem_fourth (_ : News h₀ L h (a :: b :: c :: d :: r)) : d ∈ a :: b :: c :: d :: r := .tail _ (.tail _ (.tail _ (.head _)))
end
section
variable {prog : Program} {w : World} {A : Around} {E : Value → Shared → Prop} {s : Shared} {h₀ : Heap} {L a b : Addr} {news : List (Addr × Obj)} {ys zs : List Value} {ka kb : Nat} {ST UT : List (Int × Int)} {Q : Value → Shared → Prop}
theorem dec_pairs {i : Decidable (ST.map pairD = UT.map pairD)} : @decide _ i = decide (ST = UT) := decide_eq_decide.mpr pairD_inj
theorem eq_tups (N : News h₀ L s.heap news) (ma : (a, listOf ys.toArray ka) ∈ news) (hT : TupsAre news ys ST) (mb : (b, listOf zs.toArray kb) ∈ news) (hU : TupsAre news zs UT) (hu : A.units + 64 < cLine) (h : Q (.bool (decide (ST = UT))) s) :
    wpAny (model prog w) A (compareOp .Eq (.ref a) (.ref b)) Q E s := by
  refine kqd_eq N ma rfl rfl hT.dat (fun _ h => h) mb rfl rfl hU.dat (fun _ h => h) (pairD_ok ST) (pairD_ok UT) hu ?_
  rw [dec_pairs]
  exact h
theorem ne_tups (N : News h₀ L s.heap news) (ma : (a, listOf ys.toArray ka) ∈ news) (hT : TupsAre news ys ST) (mb : (b, listOf zs.toArray kb) ∈ news) (hU : TupsAre news zs UT) (hu : A.units + 64 < cLine) (h : Q (.bool (!decide (ST = UT))) s) :
    wpAny (model prog w) A (compareOp .NotEq (.ref a) (.ref b)) Q E s := by
  refine kqd_ne N ma rfl rfl hT.dat (fun _ h => h) mb rfl rfl hU.dat (fun _ h => h) (pairD_ok ST) (pairD_ok UT) hu ?_
  rw [dec_pairs]
  exact h
theorem eq_nil_K (N : News h₀ L s.heap ((b, listOf ([] : List Value).toArray kb) :: (a, LCg.lst ys) :: news)) (hT : TupsAre news ys ST) (hu : A.units + 64 < cLine) (h : Q (.bool (decide (ST = []))) s) :
    wpAny (model prog w) A (compareOp .Eq (.ref a) (.ref b)) Q E s :=
  eq_tups N (.tail _ (.head _)) (hT.mono fun _ h => .tail _ (.tail _ h)) (.head _) .nil hu h
end
theorem mem_under6 {h₀ h : Heap} {L : Addr} {p a b c d e f : Addr × Obj} {r : List (Addr × Obj)} (_ : News h₀ L h (a :: b :: c :: d :: e :: f :: r)) (hm : p ∈ r) : p ∈ a :: b :: c :: d :: e :: f :: r := .tail _ (.tail _ (.tail _ (.tail _ (.tail _ (.tail _ hm)))))
theorem mem_fifth {h₀ h : Heap} {L : Addr} {a b c d e : Addr × Obj} {r : List (Addr × Obj)} (_ : News h₀ L h (a :: b :: c :: d :: e :: r)) : e ∈ a :: b :: c :: d :: e :: r := .tail _ (.tail _ (.tail _ (.tail _ (.head _))))
theorem tups_under {h₀ h : Heap} {L : Addr} {x : Addr × Obj} {news bs : List (Addr × Obj)} {ys : List Value} {ST : List (Int × Int)} (_ : News h₀ L h (x :: news)) (hT : TupsAre bs ys ST) (sub : ∀ p ∈ bs, p ∈ news) : TupsAre news ys ST := hT.mono sub
/-- a comprehension with a test, put aside -/
def CompAside (prog : Program) (w : World) (A : Around) (h₀ : Heap) (L : Addr) (m : Str → Option Value) (env : Env) (ct elt : PySem.Expr) (x : Str) (scope : Scope) (cl : List (Str × Addr)) (Fin : Shared → List Value → List (Addr × Obj) → Prop) (xv : Value) (s₁ : Shared) : Prop :=
  LCt.CompSrcT prog w A h₀ L m env ct elt x scope cl Fin xv s₁
section
variable {prog : Program} {w : World} {A : Around} {E : Value → Shared → Prop} {s : Shared} {h₀ : Heap} {L : Addr} {m : Str → Option Value} {env : Env}
theorem comp_aside {ct elt iter : PySem.Expr} {x : Str} {px : Pos} {scope : Scope} {cl : List (Str × Addr)} {pos : Pos} {Q : Value → Shared → Prop} (F₀ : Fr h₀ L s.heap m)
    (hclos : closureFor scope env = pure cl) (hcell : ∀ y ∈ scope.names, y.2 ≠ .cell) (hkind : scope.kind = .function)
    (hnames : ∀ y ∈ scope.names, y.2 = .local → scope.names.lookup y.1 = some .local) (hx : scope.names.lookup x = some .local)
    (h : wpAny (model prog w) A (eval iter env) (CompAside prog w A h₀ L m env ct elt x scope cl (fun s₂ => LCg.FinE h₀ L m s₂ Q)) E s)
    (hs : ∀ x, foldedSetIterable iter env x = pure x := by intro _; rfl) :
    wpAny (model prog w) A (eval (.ListComp elt [⟨.Name x px, iter, [ct], 0⟩] scope pos) env) Q E s := LCt.ListComp_T F₀ hclos hcell hkind hnames hx h hs
theorem comp_asideA {ct elt iter : PySem.Expr} {x y : Str} {px py : Pos} {scope : Scope} {cl : List (Str × Addr)} {pos spos : Pos} {Q : Flow → Shared → Prop} (F₀ : Fr h₀ L s.heap m) (hLe : env.locals = L)
    (hsw : swapsWith (.ListComp elt [⟨.Name x px, iter, [ct], 0⟩] scope pos) (some (.Name y py)) spos.line env = pure true)
    (hclos : closureFor scope env = pure cl) (hcell : ∀ z ∈ scope.names, z.2 ≠ .cell) (hkind : scope.kind = .function)
    (hnames : ∀ z ∈ scope.names, z.2 = .local → scope.names.lookup z.1 = some .local) (hx : scope.names.lookup x = some .local)
    (hy : env.kindOf y = some .local) (hp : (env.scope.kind == .class || (env.scope.kind == .module && env.locals != env.globals)) = false)
    (h : wpAny (model prog w) A (eval iter env) (CompAside prog w A h₀ L m env ct elt x scope cl (fun s₂ => LCg.FinA h₀ L m s₂ y Q)) E s)
    (hs : ∀ x, foldedSetIterable iter env x = pure x := by intro _; rfl) :
    wpAny (model prog w) A (exec (.Assign [.Name y py] (.ListComp elt [⟨.Name x px, iter, [ct], 0⟩] scope pos) spos) env) Q E s := LCt.Assign_ListComp_T F₀ hLe hsw hclos hcell hkind hnames hx hy hp h hs
end
end Mine

/- part: Steps -/
namespace Mine
local macro_rules | `(tactic| walk_at "exec For Name Call cons nil") => `(tactic| (k_here; k_dflt (refine for_aside ?_)))
local macro_rules | `(tactic| walk_at "LawTurn") => `(tactic| dsimp only [LawTurn])
local macro_rules | `(tactic| walk_at "call ref") => `(tactic| (k_here; (with_reducible show wpAny _ _ (call (Value.ref 28) _) _ _ _); k_dflt (refine' reach_call ?k1 ?k2 ?k3 ?k4 ?k5 ?kK ?kd ?ku ?p0 ?p1 ?p2 ?_; (case k1 => k_asm); (case k2 => k_asm); (case k3 => k_asm); (case k4 => k_asm); (case k5 => k_asm); (case kK => first | exact rfl | assumption); (case kd => ktr_room); (case ku => ktr_units); (case p0 => omega); (case p1 => omega); (case p2 => omega); k_whole); intro t9 h9 tk9 F9 N9; (try dsimp only); (try k_fold)))
local macro_rules | `(tactic| k_all) => `(tactic| assumption)
local macro_rules | `(tactic| walk_at "eval ListComp") => `(tactic| (k_here; k_dflt (refine comp_aside (F₀ := by k_asm) (by with_unfolding_all rfl) (by decide) (by rfl) (by decide) (by rfl) ?_)))
local macro_rules | `(tactic| walk_at "compareOp Eq ref ref") => `(tactic| (k_here; k_dflt (refine' eq_nil_K ?N ?T ?u ?_; (case N => k_asm); (case T => assumption); (case u => first | exact Nat.le_of_ble_eq_true rfl | ((have hcL9 := cLine_is); (try simp only [units_in1, units_deeper, Around.mark_units, units_caller] at *); (try dsimp only [ktrTop] at *); omega)); k_whole)))
section
variable {h₀ h : Heap} {L : Addr} {x y z i d c c' : Addr × Obj} {r : List (Addr × Obj)}
theorem news_turn0 (N : News h₀ L h (x :: y :: z :: i :: d :: c :: r)) : News h₀ L h (i :: d :: c :: x :: r) := fun p hp => N p (by
  simp only [List.mem_cons] at hp ⊢
  rcases hp with rfl | rfl | rfl | rfl | hp <;> simp [*])
theorem news_turn1 (N : News h₀ L h (x :: y :: i :: d :: c :: r)) : News h₀ L h (i :: d :: c :: r) := fun p hp => N p (.tail _ (.tail _ hp))
theorem news_skip (N : News h₀ L h (d :: c :: r)) : News h₀ L h (d :: r) := fun p hp => N p (by
  simp only [List.mem_cons] at hp ⊢
  rcases hp with rfl | hp <;> simp [*])
theorem hne2 {I D C : Addr} {o o' o2 o2' : Obj} (hne : ∀ p ∈ (D, o) :: (C, o2) :: r, p.1 ≠ I) : ∀ p ∈ (D, o') :: (C, o2') :: r, p.1 ≠ I := by
  intro p hp
  rcases List.mem_cons.mp hp with rfl | hp
  · exact hne (D, o) (.head _)
  · rcases List.mem_cons.mp hp with rfl | hp
    · exact hne (C, o2) (.tail _ (.head _))
    · exact hne p (.tail _ (.tail _ hp))
end
theorem stay1 {m₀ um : Str → Option Value} {v : Option Value} {x : Str} (hsm : ∀ z, ([x] : List Str).contains z = false → ¬ z = x) : ∀ z, ([x] : List Str).contains z = false → (fun y => if y = x then v else if ([x] : List Str).contains y = true then um y else m₀ y) z = m₀ z := by
  intro z h3
  simp only [h3, hsm z h3, if_false, Bool.false_eq_true]
theorem steps_call : ∀ {w : World} {pp : Program} {lo : List Str} {mean : ExcName → Option Value} {mg mb : Str → Option Value} {dp un : Nat} {gd : Option (List Code)} {cn : Str} {cs : Scope} {a : Addr} {ccd : Value} {cl : List (Str × Addr)} {outer : List Env} {A₀ : Around} {base h₀ : Heap} {L : Addr} {m : Str → Option Value} {rest : List (Addr × Obj)} {s : Shared} {Q E : Value → Shared → Prop}
    {c : Str} {tc : Tok} {e : Bool},
    Below A₀ base outer h₀ → Fr h₀ L s.heap m → (hd.heap_39 w.params).In h₀ → News h₀ L s.heap rest → Top pp lo mean mg mb h₀ → cs.kind = .function →
    dp + 20 < recursionLimit → un + 200 < cLine → c.length ≤ 12 →
    (∀ D vs k tups h' tk', Fr h₀ L h' m → News h₀ L h' ((D, listOf vs.toArray k) :: (tups ++ rest)) → TupsAre tups vs (S (reach c e) (c.length + 1)) → (∀ p ∈ rest, p.1 < D) → (∀ p ∈ tups, @LT.lt Nat _ D p.1) → Q (.ref D) { s with heap := h', toks := tk' }) →
    wpAny (model PySem.Challenge.rw_ki0033_01.row.prog w) (ktrTop dp un gd cn cs L a ccd cl outer) (call (.ref 47) [.str c tc, .bool e]) Q E s := by
  k_fill
  w_top off
  intro w pp lo mean mg mb dp un gd cn cs a ccd cl outer A₀ base h₀ L m rest s Q E c tc e B F X N T hk hdp hun hc hret
  refine wpAny_call ?_
  w_strict (k_dflt (refine' code_defC ?k1 ?k2 ?k3 ?k4 ?k5 ?kA ?kF ?kK ?k6 ?k7 ?k8 ?k9 ?kB ?kD ?_ ?c2 ?c3 ?c4; (case kA => exact rfl); (case kF => exact rfl); (case kK => assumption); (case k1 => k_asm); (case k2 => k_asm); (case k3 => k_asm); (case k4 => k_asm); (case k5 => k_asm); (case k6 => k_is); (case k7 => k_is); (case k8 => ktr_room); (case k9 => exact BindsTo.of_eq rfl); (case kB => exact rfl); (case kD => decide +kernel); (case c2 => exact rfl); (case c3 => exact rfl); (case c4 => exact rfl); k_whole; intro g' L' h' tk' cells' FG' F' N' Y' B' X' T' l1; k_cells Y'; (try simp only [List.cons_append, List.nil_append] at N'); (try dsimp only); (try k_fold)))
  w_strict k_steps
  rename_i oc0 hcell D h1 hDlt h2 F1 N1 h3 tk2 t1 u1 v1 hR F2 N2 hk2
  have hrD : ∀ p ∈ rest, p.1 < D := kst_ltOf hDlt.2
  have hcD : @LT.lt Nat _ (L' + 1) D := hDlt.1
  refine loop_st (stored := ["behind"]) (P := fun i news₁ => ∃ oc vs k tups, news₁ = (D, listOf vs.toArray k) :: (L' + 1, oc) :: (tups ++ rest) ∧ (∃ v, oc.data = .cell v) ∧ TupsAre tups vs (S (reach c e) i) ∧ (∀ p ∈ tups, @LT.lt Nat _ D p.1)) rfl hR (small_one (by omega) (by omega) (by omega) (by omega)) (rangeSize_nat _ _) F2 N2 ⟨oc0, [], 0, [], rfl, ⟨_, hcell⟩, .nil, fun _ h => nomatch h⟩ ?turn ?done
  case turn =>
    rintro i ti I um news₁ h9 tk9 hi ⟨oc, vs, k, tups, rfl, ⟨vc, hvc⟩, hT, hup⟩ F9 N9 hne hlt
    have ez : (0 : Int) + (i : Int) = i := Int.zero_add _
    have hsm : ∀ z, (["behind"] : List Str).contains z = false → ¬ z = "behind" := fun z h3 => by simpa using h3
    have hID : @Ne Nat I D := (hne _ (.head _)).symm
    have hIc : @Ne Nat I (L' + 1) := (hne _ (.tail _ (.head _))).symm
    have ac : ∀ p ∈ tups ++ rest, p.1 ≠ L' + 1 := fun p hp => by
      rcases List.mem_append.mp hp with hp | hp
      · have := hup p hp; exact Nat.ne_of_gt (Nat.lt_trans hcD this)
      · have := l1 p hp; exact Nat.ne_of_lt (Nat.lt_succ_of_lt this)
    have aD : ∀ p ∈ tups ++ rest, p.1 ≠ D := fun p hp => by
      rcases List.mem_append.mp hp with hp | hp
      · exact Nat.ne_of_gt (hup p hp)
      · exact Nat.ne_of_lt (hrD p hp)
    w_strict k_steps
    · rename_i hp1 oc' hoc' tka t9 h9a tk9a hp2 Fc Nc hge
      have hlen : vs.length ≤ 13 := by
        have h1 := hT.length
        have h2 := S_length (r := reach c e) i
        omega
      show LCt.CompSrcT _ _ _ _ _ _ _ _ _ _ _ _ _ _ _
      refine LCt.CompSrcT.ledger (its := vs.toArray) (k := k) rfl Fc Nc (.tail _ (.head _)) (by rw [List.size_toArray, PySem.sizeLine_eq]; omega) ?_
      intro g9
      rw [List.size_toArray]
      refine comp_filter (fun p => decide ((i : Int) < p.2)) (ST := S (reach c e) i) hT (fun i v h => by simpa using h) (.inr ⟨_, .tail _ (.head _), rfl, _, rfl⟩) ?_ ?_
      · intro a1 b1 T1 t1 t2 I1 oI1 C1 oC1 D1 m1 ys1 h1 tk1 E1 hm1 hC1 hx1 Fx Nx
        have hmA := List.mem_cons_of_mem (I1, oI1) (List.mem_cons_of_mem (C1, oC1) (List.mem_cons_of_mem (D1, LCg.lst ys1) (List.mem_cons_of_mem (I, riter (0 + i + 1) ((((c.length : Int) + 1 - 0).toNat : Int) - i - 1)) (List.mem_cons_of_mem (D, listOf vs.toArray k) (List.mem_cons_of_mem (L' + 1, oc') (List.mem_append_left rest hm1))))))
        have hmC := List.mem_cons_of_mem (I1, oI1) (List.mem_cons_of_mem (C1, oC1) (List.mem_cons_of_mem (D1, LCg.lst ys1) (mem_third Nc)))
        w_strict k_steps
        · exact Kept.intro (by k_asm) (by k_asm) (by simp only [decide_eq_true_eq]; omega)
        · exact Kept.intro (by k_asm) (by k_asm) (by simp only [decide_eq_false_iff_not]; omega)
      · intro ys1 hys1 Dn hn tkn Fn Nn offn
        have oD : @Ne Nat D Dn := offn.2.1
        have hys2 := tups_under Nn hys1 (fun p hp => .tail _ (.tail _ (.tail _ (List.mem_append_left _ hp))))
        clear Fc Nc
        w_strict k_steps
        · rename News _ _ _ _ => Nz
          have eS : S (reach c e) (i + 1) = S (reach c e) i ++ [((0 : Int) + i, reach c e (0 + i))] := by
            rw [S, if_pos ⟨by rw [ez] at hge; exact hge, by assumption⟩, ez]
          rw [List.push_toArray] at Nz
          refine turn_end (by assumption) (news_turn0 Nz) ?_ (stay1 hsm) ⟨oc', _, _, _ :: tups, rfl, ⟨_, hoc'⟩, ?_, ?_⟩
          · intro p hp
            rcases List.mem_cons.mp hp with rfl | hp
            · exact Ne.symm hID
            · rcases List.mem_cons.mp hp with rfl | hp
              · exact Ne.symm hIc
              · rcases List.mem_cons.mp hp with rfl | hp
                · refine Nat.ne_of_gt ?_
                  dsimp only
                  omega
                · exact hne p (.tail _ (.tail _ hp))
          · rw [eS]
            exact (hT.mono fun p hp => .tail _ hp).snoc (.head _)
          · intro p hp
            rcases List.mem_cons.mp hp with rfl | hp
            · dsimp only
              omega
            · exact hup p hp
        · rename News _ _ _ _ => Nz
          have eS : S (reach c e) (i + 1) = S (reach c e) i := by
            rw [S, if_neg]
            rintro ⟨_, h5⟩
            contradiction
          refine turn_end (by assumption) (news_turn1 Nz) ?_ (stay1 hsm) ⟨oc', _, _, tups, rfl, ⟨_, hoc'⟩, by rw [eS]; exact hT, hup⟩
          exact hne2 hne
    · rename_i oc' hoc' _ _ _ _ _ _ _ _
      rename News _ _ _ _ => Nz
      rename ¬ 0 ≤ reach c e _ => hneg
      refine turn_end (by assumption) Nz (hne2 hne) (stay1 hsm) ⟨_, _, _, tups, rfl, ⟨_, by assumption⟩, ?_, hup⟩
      rw [S_neg (by rw [ez] at hneg; omega)]
      exact hT
  case done =>
    rintro um news₁ h9 tk9 ⟨oc, vs, k, tups, rfl, ⟨vc, hvc⟩, hT, hup⟩ F9 N9
    w_strict k_steps
    rename News h₀ _ _ _ => Nz
    rw [show ((c.length : Int) + 1 - 0).toNat = c.length + 1 by omega] at hT
    exact hret D vs k tups _ _ (by k_asm) (news_skip Nz) hT hrD hup
end Mine

/- part: Prog -/
namespace Mine
local macro_rules | `(tactic| k_all) => `(tactic| assumption)
local macro_rules | `(tactic| k_all) => `(tactic| (refine' tbn_neAll (tbn_up ?lt9 ?as9); (case as9 => assumption); (case lt9 => omega)))
local macro_rules | `(tactic| walk_at "setAttr ref") => `(tactic| (k_here; k_dflt (refine' setFn_K ?k1 ?k2 ?k3 ?k4 ?k5 ?k6 ?k7 ?_; (case k1 => k_asm); (case k2 => k_asm); (case k3 => k_updF); (case k4 => exact rfl); (case k5 => (intro c9 h9; cases h9)); (case k6 => exact rfl); (case k7 => first | exact lk_fn_span | exact lk_fn_search); k_whole); intro dx' od' h' tk' F' N' hns' l1; (try dsimp only at N'); (try k_lt l1)))


section
variable {pm : Value} {h₀ : Heap} {L L' : Addr} {m : Str → Option Value} {rest : List (Addr × Obj)} {s : Shared} {e : Bool} {Q : Value → Shared → Prop} {dx f c fs cS tD ce : Addr} {od oc oS oce : Obj} {ct ctS dc : Value} {t0 t : Tok} {vs : Array Value} {h' : Heap} {tk' : Nat} {ps : Array Value}
theorem prog_end (hret : ∀ f new qs h' tk', Fr h₀ L h' m → News h₀ L h' (new ++ (37, tabObj qs) :: rest) → IsProg pm new f e → (∀ p ∈ new, @LT.lt Nat _ 37 p.1 ∧ ∀ q ∈ rest, @LT.lt Nat _ q.1 p.1) → Q (.ref f) { s with heap := h', toks := tk' }) (F : Fr h₀ L h' m)
    (N : News h₀ L h' ((dx, od) :: (f, progFn pm c ct dx) :: (c, oc) :: (fs, searchFn pm ce tD dc cS ctS) :: (cS, oS) :: (tD, kdv_tup [.int 0 t0]) :: (ce, oce) :: (37, tabObj ps) :: rest))
    (hod : LCg.NsObj od (fun y => if y = "search" then some (.ref fs) else none)) (e1 : oS.data = .fields vs) (e2 : vs[1]? = some (.str searchQual t)) (d1 : oce.data = .cell (some (.bool e)))
    (hlt : AllLt L' rest) (hup : @LT.lt Nat _ 37 L' ∧ @LT.lt Nat _ L' dx ∧ @LT.lt Nat _ L' f ∧ @LT.lt Nat _ L' c ∧ @LT.lt Nat _ L' fs ∧ @LT.lt Nat _ L' cS ∧ @LT.lt Nat _ L' tD ∧ @LT.lt Nat _ L' ce) : Q (.ref f) { s with heap := h', toks := tk' } := by
  refine hret f [(dx, od), (f, progFn pm c ct dx), (c, oc), (fs, searchFn pm ce tD dc cS ctS), (cS, oS), (tD, kdv_tup [.int 0 t0]), (ce, oce)] ps h' tk' F N ⟨dx, od, fs, c, ct, by simp, by simp, hod, ce, oce, tD, t0, dc, cS, oS, vs, t, ctS, by simp, by simp, e1, e2, by simp, by simp, d1⟩ ?_
  · have h9 : ∀ q ∈ [(dx, od), (f, progFn pm c ct dx), (c, oc), (fs, searchFn pm ce tD dc cS ctS), (cS, oS), (tD, kdv_tup [.int 0 t0]), (ce, oce)], @LT.lt Nat _ L' q.1 := by
      simp only [List.forall_mem_cons, List.not_mem_nil, false_implies, implies_true, and_true]
      omega
    intro p hp
    have h10 := h9 p hp
    exact ⟨Nat.lt_trans hup.1 h10, fun q hq => Nat.lt_trans (kst_ltOf hlt q hq) h10⟩
end
theorem prog_call : ∀ {w : World} {pp : Program} {lo : List Str} {mean : ExcName → Option Value} {mg mb : Str → Option Value} {dp un : Nat} {gd : Option (List Code)} {cn : Str} {cs : Scope} {a : Addr} {ccd : Value} {cl : List (Str × Addr)} {outer : List Env} {A₀ : Around} {base h₀ : Heap} {L : Addr} {m : Str → Option Value} {rest : List (Addr × Obj)} {s : Shared} {Q E : Value → Shared → Prop}
    {e : Bool},
    Below A₀ base outer h₀ → Fr h₀ L s.heap m → (hd.heap_39 w.params).In h₀ → News h₀ L s.heap ((37, tabObj #[]) :: rest) → CodeHd base 41 37 → (∀ p ∈ rest, p.1 ≠ 37) → Top pp lo mean mg mb h₀ → cs.kind = .function →
    dp + 10 < recursionLimit → un + 100 < cLine → 
    (∀ f new qs h' tk', Fr h₀ L h' m → News h₀ L h' (new ++ (37, tabObj qs) :: rest) → IsProg ((mg "__name__").getD .none) new f e → (∀ p ∈ new, @LT.lt Nat _ 37 p.1 ∧ ∀ q ∈ rest, @LT.lt Nat _ q.1 p.1) → Q (.ref f) { s with heap := h', toks := tk' }) →
    wpAny (model PySem.Challenge.rw_ki0033_01.row.prog w) (ktrTop dp un gd cn cs L a ccd cl outer) (call (.ref 42) [.bool e]) Q E s := by
  k_fill
  w_top off
  intro w pp lo mean mg mb dp un gd cn cs a ccd cl outer A₀ base h₀ L m rest s Q E e B F X N CH hr30 T hk hdp hun hret
  refine wpAny_call ?_
  w_strict (k_dflt (refine' code_defC ?k1 ?k2 ?k3 ?k4 ?k5 ?kA ?kF ?kK ?k6 ?k7 ?k8 ?k9 ?kB ?kD ?_ ?c2 ?c3 ?c4; (case kA => exact rfl); (case kF => exact rfl); (case kK => assumption); (case k1 => k_asm); (case k2 => k_asm); (case k3 => k_asm); (case k4 => k_asm); (case k5 => k_asm); (case k6 => k_is); (case k7 => k_is); (case k8 => ktr_room); (case k9 => exact BindsTo.of_eq rfl); (case kB => exact rfl); (case kD => decide +kernel); (case c2 => exact rfl); (case c3 => exact rfl); (case c4 => exact rfl); k_whole; intro g' L' h' tk' cells' FG' F' N' Y' B' X' T' l1; (try k_lt l1); (have hLr := l1.2); k_cells Y'; (try simp only [List.cons_append, List.nil_append] at N'); (try dsimp only); (try k_fold)))
  w_strict k_steps
  rename News h₀ _ _ _ => Nz
  exact prog_end hret (by k_asm) Nz (by assumption) (by assumption) (by assumption) (by assumption) hLr (by omega)
end Mine

/- part: Tail0 -/
namespace Mine
theorem TupsAre.drop {news : List (Addr × Obj)} {vs : List Value} {ST : List (Int × Int)} (h : TupsAre news vs ST) : ∀ n : Nat, TupsAre news (vs.drop n) (ST.drop n) := by
  induction h with
  | nil => intro n; simp only [List.drop_nil]; exact .nil
  | cons hm h ih =>
    intro n
    cases n with
    | zero => exact .cons hm h
    | succ n => exact ih n
section
variable {prog : Program} {w : World} {A : Around} {E : Value → Shared → Prop} {s : Shared} {h₀ : Heap} {L l : Addr} {m : Str → Option Value} {news bs : List (Addr × Obj)} {value slice : PySem.Expr} {ys : List Value} {vl vu : Value} {k : Nat} {D : List (Int × Int)} {Q : Value → Shared → Prop}
theorem slice_lastK (F : Fr h₀ L s.heap m) (N : News h₀ L s.heap news) (hm : (l, listOf ys.toArray k) ∈ bs) (hT : TupsAre bs ys D) (sub : ∀ p ∈ bs, p ∈ news) (pl : IsPart vl (some (-1))) (pu : IsPart vu none)
    (h : ∀ Dz zs h', Fr h₀ L h' m → News h₀ L h' ((Dz, listOf zs.toArray 0) :: news) → TupsAre news zs (D.drop (D.length - 1)) → (∀ p ∈ news, p.1 < Dz) → Q (.ref Dz) { s with heap := h' })
    (hs : subscripted slice false (.ref l) (.ref s.heap.objs.size) = operate [.ref s.heap.objs.size, .ref l] (getItem (.ref l) (.ref s.heap.objs.size))) (ht : ∀ r, letTemporaryGo value (.ref l) r = pure ()) (hz : ys.toArray.size ≤ sizeLine) :
    wpAny (model prog w) A (subscriptTail value slice (.ref l) (.ref s.heap.objs.size)) Q E { s with heap := s.heap.push { cls := .type "slice", data := .fields #[vl, vu, .none] } } := by
  have hl : s.heap.IsList l ys.toArray := ⟨_, (N _ (sub _ hm)).1, rfl, _, rfl⟩
  refine kms_slice_lit (zs := ys.drop (ys.length - 1)) F N hl pl pu ?_ (fun Dz h' F' N' l1 => h Dz _ h' F' N' ?_ l1) hs ht hz
  · show kms_pick ys (some (-1)) none = _
    unfold kms_pick kms_lo kms_hi
    simp only [Int.reduceNeg, Int.reduceLT, if_true, Int.neg_neg, Int.reduceToNat]
    exact List.take_of_length_le (by rw [List.length_drop]; exact Nat.le_refl _)
  · rw [← hT.length]
    exact (hT.mono sub).drop _
variable {a b : Addr} {ka kb : Nat} {ws zs : List Value} {ST UT : List (Int × Int)}
theorem ne_last (N : News h₀ L s.heap ((b, listOf zs.toArray kb) :: (a, listOf ws.toArray ka) :: news)) (hT : TupsAre news ws ST) (hU : TupsAre ((a, listOf ws.toArray ka) :: news) zs UT) (hu : A.units + 64 < cLine) (h : Q (.bool (!decide (ST = UT))) s) :
    wpAny (model prog w) A (compareOp .NotEq (.ref a) (.ref b)) Q E s :=
  ne_tups N (.tail _ (.head _)) (hT.mono fun _ h => .tail _ (.tail _ h)) (.head _) (hU.mono fun _ h => .tail _ h) hu h
end
/-- the head of the ledger that the loop keeps apart -/
theorem hitTab_apart {h₀ h : Heap} {L I cc : Addr} {news : List (Addr × Obj)} {ps : Array Value} {oc : Obj} {v : Option Value} {a n : Int} (N : News h₀ L h news) (HT : HitTab ps news) (hcc : (cc, oc) ∈ news) (hoc : oc.data = .cell v) (hI : (I, riter a n) ∈ news) :
    HitTab ps (news.filter fun p => p.1 != cc && p.1 != I) := by
  rcases HT with rfl | ⟨c1, c2, e, o2, vs, t, hm, hd, hv⟩
  · exact .inl rfl
  · refine .inr ⟨c1, c2, e, o2, vs, t, List.mem_filter.mpr ⟨hm, ?_⟩, hd, hv⟩
    have g2 := (N _ hm).1
    have gc := (N _ hcc).1
    have gI := (N _ hI).1
    simp only [Bool.and_eq_true, bne_iff_ne, ne_eq]
    refine ⟨fun q => ?_, fun q => ?_⟩
    · rw [q, gc] at g2
      cases g2
      rw [hoc] at hd
      cases hd
    · rw [q, gI] at g2
      cases g2
      cases hd
      simp [rawInt] at hv
theorem tail_turn {h₀ h : Heap} {L I cc : Addr} {all rest9 : List (Addr × Obj)} {o oc : Obj} {ps : Array Value} (N : News h₀ L h all) (h30 : (30, tabObj ps) ∈ all) (sub : ∀ p ∈ rest9, p ∈ all) (hI : (I, o) ∈ rest9) (hc : (cc, oc) ∈ rest9) :
    News h₀ L h ((I, o) :: (cc, oc) :: (30, tabObj ps) :: rest9.filter fun p => p.1 != cc && p.1 != I) := fun p hp => N p (by
  rcases List.mem_cons.mp hp with rfl | hp
  · exact sub _ hI
  · rcases List.mem_cons.mp hp with rfl | hp
    · exact sub _ hc
    · rcases List.mem_cons.mp hp with rfl | hp
      · exact h30
      · exact sub _ (List.mem_filter.mp hp).1)
theorem first3 {a b c : Addr × Obj} {R r : List (Addr × Obj)} (h : ∀ p ∈ [a, b, c] ++ R, p ∈ r) : a ∈ r ∧ b ∈ r ∧ c ∈ r ∧ ∀ p ∈ R, p ∈ r :=
  ⟨h a (by simp), h b (by simp), h c (by simp), fun p hp => h p (List.mem_append_right _ hp)⟩
theorem ne30_3 {a b c : Addr × Obj} {R : List (Addr × Obj)} (ha : @Ne Nat a.1 30) (hb : @Ne Nat b.1 30) (hc : @Ne Nat c.1 30) (hR : ∀ p ∈ R, p.1 ≠ 30) : ∀ p ∈ [a, b, c] ++ R, p.1 ≠ 30 := by
  intro p hp
  simp only [List.mem_append, List.mem_cons, List.not_mem_nil, or_false] at hp
  rcases hp with (rfl | rfl | rfl) | hp
  · exact ha
  · exact hb
  · exact hc
  · exact hR p hp
theorem last_nil {D : List (Int × Int)} (h : D = []) : [] = D.drop (D.length - 1) := by rw [h]; rfl
theorem last_one {D pre : List (Int × Int)} {a b : Int} (h : D = pre ++ [(a, b)]) : [(a, b)] = D.drop (D.length - 1) := by
  rw [h, List.length_append, List.length_singleton, Nat.add_sub_cancel, List.drop_left]
end Mine

/- part: Tail -/
namespace Mine
noncomputable abbrev lawDef : Stmt := (PySem.Challenge.pw_ki0033_01.main.body[7]?).getD (.Pass default)
section
variable {w : World} {pp : Program} {lo : List Str} {mean : ExcName → Option Value} {mg mb : Str → Option Value} {dp un : Nat} {gd : Option (List Code)} {cn : Str} {cs : Scope} {a : Addr} {ccd : Value} {cl : List (Str × Addr)} {outer : List Env} {A₀ : Around} {base h₀ : Heap} {L : Addr} {m : Str → Option Value} {rest : List (Addr × Obj)} {s : Shared} {Q E : Value → Shared → Prop} {x y z : Addr × Obj} {c : Str} {tc : Tok} {e : Bool}
theorem steps_call3 (B : Below A₀ base outer h₀) (F : Fr h₀ L s.heap m) (X : (hd.heap_39 w.params).In h₀) (N : News h₀ L s.heap (x :: y :: z :: rest)) (T : Top pp lo mean mg mb h₀) (hk : cs.kind = .function)
    (hdp : dp + 20 < recursionLimit) (hun : un + 200 < cLine) (hc : c.length ≤ 12)
    (ret : ∀ D vs k new h' tk', Fr h₀ L h' m → News h₀ L h' (x :: y :: z :: (new ++ rest)) → (D, listOf vs.toArray k) ∈ new → TupsAre new vs (S (reach c e) (c.length + 1)) → (∀ p ∈ new, @LT.lt Nat _ x.1 p.1 ∧ @LT.lt Nat _ y.1 p.1 ∧ @LT.lt Nat _ z.1 p.1) → Q (.ref D) { s with heap := h', toks := tk' }) :
    wpAny (model PySem.Challenge.rw_ki0033_01.row.prog w) (ktrTop dp un gd cn cs L a ccd cl outer) (call (.ref 47) [.str c tc, .bool e]) Q E s := by
  refine steps_call B F X N T hk hdp hun hc fun D vs k tups h' tk' F' N' hT hD hup => ret D vs k ((D, listOf vs.toArray k) :: tups) h' tk' F' (fun p hp => N' p ?_) (.head _) (hT.mono fun _ h => .tail _ h) ?_
  · simp only [List.mem_cons, List.mem_append] at hp ⊢
    rcases hp with rfl | rfl | rfl | (rfl | hp) | hp <;> simp [*]
  · have hx := hD x (.head _)
    have hy := hD y (.tail _ (.head _))
    have hz := hD z (.tail _ (.tail _ (.head _)))
    intro p hp
    rcases List.mem_cons.mp hp with rfl | hp
    · exact ⟨hx, hy, hz⟩
    · have := hup p hp
      exact ⟨Nat.lt_trans hx this, Nat.lt_trans hy this, Nat.lt_trans hz this⟩
theorem prog_call3 (B : Below A₀ base outer h₀) (F : Fr h₀ L s.heap m) (X : (hd.heap_39 w.params).In h₀) (N : News h₀ L s.heap (x :: y :: (37, tabObj #[]) :: rest)) (CH : CodeHd base 41 37) (h37 : ∀ p ∈ x :: y :: rest, p.1 ≠ 37) (T : Top pp lo mean mg mb h₀) (hk : cs.kind = .function)
    (hdp : dp + 10 < recursionLimit) (hun : un + 100 < cLine)
    (ret : ∀ f new qs h' tk', Fr h₀ L h' m → News h₀ L h' (x :: y :: (new ++ (37, tabObj qs) :: rest)) → IsProg ((mg "__name__").getD .none) new f e → (∀ p ∈ new, @LT.lt Nat _ x.1 p.1 ∧ @LT.lt Nat _ y.1 p.1) → Q (.ref f) { s with heap := h', toks := tk' }) :
    wpAny (model PySem.Challenge.rw_ki0033_01.row.prog w) (ktrTop dp un gd cn cs L a ccd cl outer) (call (.ref 42) [.bool e]) Q E s := by
  refine prog_call B F X (news_pull (l1 := [x, y]) N) CH h37 T hk hdp hun fun f new qs h' tk' F' N' hP hlt => ret f new qs h' tk' F' (fun p hp => N' p ?_) hP fun p hp => ⟨(hlt p hp).2 x (.head _), (hlt p hp).2 y (.tail _ (.head _))⟩
  simp only [List.mem_cons, List.mem_append] at hp ⊢
  rcases hp with rfl | rfl | hp | rfl | hp <;> simp [*]
end
theorem ne37 {x y : Addr × Obj} {new rest : List (Addr × Obj)} (hx : @Ne Nat x.1 37) (hy : @Ne Nat y.1 37) (hl : ∀ p ∈ new, @LT.lt Nat _ x.1 p.1 ∧ @LT.lt Nat _ y.1 p.1 ∧ @LT.lt Nat _ 37 p.1) (hr : ∀ p ∈ rest, p.1 ≠ 37) : ∀ p ∈ x :: y :: (new ++ rest), p.1 ≠ 37 := by
  intro p hp
  simp only [List.mem_cons, List.mem_append] at hp
  rcases hp with rfl | rfl | hp | hp
  · exact hx
  · exact hy
  · exact Nat.ne_of_gt (hl p hp).2.2
  · exact hr p hp
local macro_rules | `(tactic| k_all) => `(tactic| assumption)
local macro_rules | `(tactic| walk_at "exec For Name Call cons nil") => `(tactic| (k_here; k_dflt (refine for_aside ?_)))
local macro_rules | `(tactic| walk_at "LawTurn") => `(tactic| dsimp only [LawTurn])
local macro_rules | `(tactic| walk_at "exec Assign cons ListComp") => `(tactic| (k_here; k_dflt (refine comp_asideA (F₀ := by k_asm) (by rfl) (by with_unfolding_all rfl) (by with_unfolding_all rfl) (by decide) (by rfl) (by decide) (by rfl) (by rfl) (by rfl) ?_)))
local macro_rules | `(tactic| walk_at "call ref") => `(tactic| (k_here; (with_reducible show wpAny _ _ (call (Value.ref 47) _) _ _ _); k_dflt (refine' steps_call3 ?k1 ?k2 ?k3 ?k4 ?k5 ?kK ?kd ?ku ?p2 ?_; (case k1 => k_asm); (case k2 => k_asm); (case k3 => k_asm); (case k4 => k_asm); (case k5 => k_asm); (case kK => first | exact rfl | assumption); (case kd => ktr_room); (case ku => ktr_units); (case p2 => omega); k_whole); intro D9 vs9 k9 new9 h9 tk9 F9 N9 hm9 hT9 hl9; (try dsimp only)))
local macro_rules | `(tactic| walk_at "call ref") => `(tactic| (k_here; (with_reducible show wpAny _ _ (call (Value.ref 42) _) _ _ _); k_dflt (refine' prog_call3 ?k1 ?k2 ?k3 ?k4 ?kC ?k37 ?k5 ?kK ?kd ?ku ?_; (case k1 => k_asm); (case k2 => k_asm); (case k3 => k_asm); (case k4 => k_asm); (case kC => assumption); (case k37 => exact ne37 (by dsimp only; omega) (by dsimp only; omega) (by assumption) (by assumption)); (case k5 => k_asm); (case kK => first | exact rfl | assumption); (case kd => ktr_room); (case ku => ktr_units); k_whole); intro f9 new9 qs9 h9 tk9 F9 N9 hP9 hl9; (try dsimp only)))
local macro_rules | `(tactic| walk_at "call ref") => `(tactic| (k_here; k_dflt (refine' span_call ?k1 ?k2 ?k3 ?k4 ?k5 ?kK ?kd ?ku ?kS ?_; (case kS => assumption); (case k1 => k_asm); (case k2 => k_asm); (case k3 => k_asm); (case k4 => k_asm); (case k5 => k_asm); (case kK => first | exact rfl | assumption); (case kd => ktr_room); (case ku => ktr_units); k_whole); intro T9 ti9 tj9 h9 tk9 F9 N9 hl9; (try dsimp only); (try k_fold)))
local macro_rules | `(tactic| walk_at "getMethod ref") => `(tactic| (k_here; (with_reducible show wpAny _ _ (getMethod (Value.ref _) (Str.ofString "span") _) _ _ _); k_dflt (refine' meth_span ?N ?H ?_; (case N => k_asm); (case H => assumption); k_whole); intro g9 hS9; (try dsimp only)))
local macro_rules | `(tactic| walk_at "callWith ref") => `(tactic| (k_here; k_dflt (refine' callWith_F0 ?k1 ?_; (case k1 => exact fn_span (by k_asm) (by assumption)); k_whole; try dsimp only [List.nil_append, List.cons_append])))
section
variable {w : World} {pp : Program} {lo : List Str} {mean : ExcName → Option Value} {mg mb : Str → Option Value} {dp un : Nat} {gd : Option (List Code)} {cn : Str} {cs : Scope} {a : Addr} {ccd : Value} {cl : List (Str × Addr)} {outer : List Env} {A₀ : Around} {base h₀ : Heap} {L : Addr} {m : Str → Option Value} {ps : Array Value} {R : List (Addr × Obj)} {s : Shared} {Q E : Value → Shared → Prop} {x y z : Addr × Obj} {fP : Addr} {c : Str} {tc : Tok} {col : Int} {tcol : Tok} {e : Bool}
theorem rev_call3 (B : Below A₀ base outer h₀) (F : Fr h₀ L s.heap m) (X : (hd.heap_39 w.params).In h₀) (N : News h₀ L s.heap (x :: y :: z :: (30, tabObj ps) :: R)) (HT : HitTab ps R) (CH : CodeHd base 34 30) (hx : @Ne Nat x.1 30) (hy : @Ne Nat y.1 30) (hz : @Ne Nat z.1 30) (hR : ∀ p ∈ R, p.1 ≠ 30) (T : Top pp lo mean mg mb h₀) (hk : cs.kind = .function)
    (hdp : dp + 40 < recursionLimit) (hun : un + 400 < cLine) (hP : IsProg ((mg "__name__").getD .none) R fP e) (hcol : col ≤ c.length) (hc : c.length ≤ 12)
    (ret : ∀ v ps' rest' h' tk', FoundIs ((mg "__name__").getD .none) rest' v (due (reach c e) c.length col) → Fr h₀ L h' m → News h₀ L h' ((30, tabObj ps') :: rest') → x ∈ rest' → y ∈ rest' → z ∈ rest' → (∀ p ∈ R, p ∈ rest') → (∀ p ∈ rest', p.1 ≠ 30) → HitTab ps' rest' → Q v { s with heap := h', toks := tk' }) :
    wpAny (model PySem.Challenge.rw_ki0033_01.row.prog w) (ktrTop dp un gd cn cs L a ccd cl outer) (call (.ref 21) [.ref fP, .str c tc, .int col tcol]) Q E s := by
  refine rev_call B F X (news_pull (l1 := [x, y, z]) N) (HT.mono fun _ h => List.mem_append_right _ h) CH (ne30_3 hx hy hz hR) T hk hdp hun (hP.mono fun _ h => List.mem_append_right _ h) hcol hc ?_
  intro v ps' rest' h' tk' hF F' N' hs h30 HT'
  obtain ⟨h1, h2, h3, h4⟩ := first3 hs
  exact ret v ps' rest' h' tk' hF F' N' h1 h2 h3 h4 h30 HT'
end
theorem no_of {col a b : Int} (h : ¬ (a < col ∧ b ≤ col)) : okStep col (a, b) = false := by
  unfold okStep
  simp only [Bool.and_eq_false_iff, decide_eq_false_iff_not]
  omega
section
variable {h₀ h : Heap} {L I cc : Addr} {a b c d p : Addr × Obj} {r : List (Addr × Obj)}
theorem sub_of3 (_ : News h₀ L h (a :: b :: c :: r)) (hp : p ∈ r) : p ∈ a :: b :: c :: r := .tail _ (.tail _ (.tail _ hp))
theorem sub_of4 (_ : News h₀ L h (a :: b :: c :: d :: r)) (hp : p ∈ r) : p ∈ a :: b :: c :: d :: r := .tail _ (.tail _ (.tail _ (.tail _ hp)))
theorem apart_ne {oc : Obj} {ps : Array Value} (h1 : @Ne Nat I cc) (h2 : @Ne Nat I 30) : ∀ p ∈ (cc, oc) :: (30, tabObj ps) :: r.filter (fun p => p.1 != cc && p.1 != I), p.1 ≠ I := by
  intro p hp
  rcases List.mem_cons.mp hp with rfl | hp
  · exact Ne.symm h1
  · rcases List.mem_cons.mp hp with rfl | hp
    · exact Ne.symm h2
    · have := (List.mem_filter.mp hp).2
      simp only [Bool.and_eq_true, bne_iff_ne, ne_eq] at this
      exact this.2
theorem apart_L : ∀ p ∈ r.filter (fun p => p.1 != cc && p.1 != I), p.1 ≠ cc := by
  intro p hp
  have := (List.mem_filter.mp hp).2
  simp only [Bool.and_eq_true, bne_iff_ne, ne_eq] at this
  exact this.1
theorem apart_sub (h : p ∈ r) (h1 : p.1 ≠ cc) (h2 : p.1 ≠ I) : p ∈ r.filter (fun p => p.1 != cc && p.1 != I) := List.mem_filter.mpr ⟨h, by simp only [Bool.and_eq_true, bne_iff_ne, ne_eq]; exact ⟨h1, h2⟩⟩
end
theorem stay2 {m₀ um : Str → Option Value} {v u : Option Value} {x y : Str} (hsm1 : ∀ z, ([x, y] : List Str).contains z = false → ¬ z = x) (hsm2 : ∀ z, ([x, y] : List Str).contains z = false → ¬ z = y) :
    ∀ z, ([x, y] : List Str).contains z = false → (fun k => if k = y then v else if k = x then u else if ([x, y] : List Str).contains k = true then um k else m₀ k) z = m₀ z := by
  intro z h3
  simp only [h3, hsm1 z h3, hsm2 z h3, if_false, Bool.false_eq_true]
def RevAside (P : Prop) : Prop := P
theorem rev_aside {prog : Program} {w : World} {A : Around} {Q E : Value → Shared → Prop} {s : Shared} {vs : List Value} (h : RevAside (wpAny (model prog w) A (call (.ref 21) vs) Q E s)) : wpAny (model prog w) A (call (.ref 21) vs) Q E s := h
local macro_rules | `(tactic| walk_at "call ref") => `(tactic| (k_here; (with_reducible show wpAny _ _ (call (Value.ref 21) _) _ _ _); refine rev_aside ?_))
local macro_rules | `(tactic| walk_at "subscriptTail Name Slice ref ref") => `(tactic| (k_here; (with_reducible show wpAny _ _ (subscriptTail _ (PySem.Expr.Slice _ _ none _) (Value.ref _) (Value.ref _)) _ _ _); k_dflt (refine' slice_lastK ?F ?N ?m ?T ?b ?p ?q ?_ ?s ?t ?z; (case F => k_asm); (case N => k_asm); (case m => assumption); (case T => assumption); (case b => (intro p9 hp9; repeat (first | exact hp9 | refine List.mem_cons_of_mem _ ?_))); (case p => kmk_part); (case q => kmk_part); (case s => with_unfolding_all rfl); (case t => kmk_pure); (case z => (rw [List.size_toArray, PySem.sizeLine_eq]; omega))); intro D9 zs9 h9 F9 N9 hT9 l19))
local macro_rules | `(tactic| walk_at "compareOp NotEq ref ref") => `(tactic| (k_here; k_dflt (refine' ne_last ?N ?T ?U ?u ?_; (case N => k_asm); (case T => first | exact TupsAre.nil | exact TupsAre.cons (.head _) TupsAre.nil); (case U => assumption); (case u => first | exact Nat.le_of_ble_eq_true rfl | decide | ((have hcL9 := cLine_is); (try simp only [units_in1, units_deeper, Around.mark_units, units_caller] at *); omega)); k_whole)))
theorem law_tail : ∀ {w : World} {pp : Program} {lo : List Str} {mean : ExcName → Option Value} {mg mb : Str → Option Value} {base h₀ : Heap} {L fa : Addr} {cd : Value} {m0 : Str → Option Value} {oc : Obj} {vc : Option Value} {rest : List (Addr × Obj)} {s : Shared} {Q : Flow → Shared → Prop} {E : Value → Shared → Prop} {c : Str} {tc : Tok} {e : Bool},
    Below callerA base [] h₀ → Fr h₀ L s.heap (fun y => if y = "chars" then some (.str c tc) else if y = "ending" then some (.bool e) else m0 y) → (hd.heap_39 w.params).In h₀ → News h₀ L s.heap ((L + 1, oc) :: (30, tabObj #[]) :: (37, tabObj #[]) :: rest) → oc.data = .cell vc →
    (∀ p ∈ rest, p.1 ≠ L + 1) → (∀ p ∈ rest, p.1 ≠ 30) → (∀ p ∈ rest, p.1 ≠ 37) → @LT.lt Nat _ 37 L → CodeHd base 34 30 → CodeHd base 41 37 → Top pp lo mean mg mb h₀ → c.length ≤ 12 →
    PassesOwn (model PySem.Challenge.rw_ki0033_01.row.prog w) (callerA.deeper (envOfC "law" (fnScope lawDef) L fa cd)) (envOfC "law" (fnScope lawDef) L fa cd) E →
    (∀ h' tk m' news' ps qs, Fr h₀ L h' m' → News h₀ L h' news' → (30, tabObj ps) ∈ news' → (37, tabObj qs) ∈ news' → Q (.ret (.bool true)) { s with heap := h', toks := tk }) →
    wpAny (model PySem.Challenge.rw_ki0033_01.row.prog w) (callerA.deeper (envOfC "law" (fnScope lawDef) L fa cd)) (execs ((fnBody lawDef).drop 3) (envOfC "law" (fnScope lawDef) L fa cd)) Q E s := by
  k_fill
  w_top off
  dsimp only [lawDef, fnBody, fnScope, PySem.Challenge.pw_ki0033_01, List.getElem?_cons_succ, List.getElem?_cons_zero, Option.getD_some, List.drop_succ_cons, List.drop_zero]
  intro w pp lo mean mg mb base h₀ L fa cd m0 oc vc rest s Q E c tc e B F X N hoc rL r30 r37 hL CH CH2 T hc hE hret
  w_strict k_steps
  rename_i D vs k newS h1 tk1 hmD hTS hlS h2 tka fP newP qs h3 tk3 hPP hlP h4 F4 N4 h5 tk5 t1 u1 v1 hR F5 N5 hk5
  have q30 : ∀ p ∈ newP ++ (37, tabObj qs) :: (newS ++ rest), p.1 ≠ 30 := fun p hp => by
    rcases List.mem_append.mp hp with hp | hp
    · exact Nat.ne_of_gt (hlP p hp).2
    · rcases List.mem_cons.mp hp with rfl | hp
      · show (37 : Nat) ≠ 30
        decide
      · rcases List.mem_append.mp hp with hp | hp
        · exact Nat.ne_of_gt (hlS p hp).2.1
        · exact r30 p hp
  have qL : ∀ p ∈ newP ++ (37, tabObj qs) :: (newS ++ rest), p.1 ≠ L + 1 := fun p hp => by
    rcases List.mem_append.mp hp with hp | hp
    · exact Nat.ne_of_gt (hlP p hp).1
    · rcases List.mem_cons.mp hp with rfl | hp
      · exact Nat.ne_of_lt (Nat.lt_succ_of_lt hL)
      · rcases List.mem_append.mp hp with hp | hp
        · exact Nat.ne_of_gt (hlS p hp).1
        · exact rL p hp
  refine loop_st (stored := ["due", "told"]) (P := fun _ news₁ => ∃ oc ps R, news₁ = (L + 1, oc) :: (30, tabObj ps) :: R ∧ (∃ v, oc.data = .cell v) ∧ HitTab ps R ∧ (∀ p ∈ R, p.1 ≠ 30) ∧ (∀ p ∈ R, p.1 ≠ L + 1) ∧ (∀ p ∈ newP ++ (37, tabObj qs) :: (newS ++ rest), p ∈ R)) rfl hR (small_one (by omega) (by omega) (by omega) (by omega)) (rangeSize_nat _ _) F5 N5 ⟨oc, #[], _, rfl, ⟨_, hoc⟩, .inl rfl, q30, qL, fun _ h => h⟩ ?turn ?done hE
  case turn =>
    rintro i ti I um news₁ h9 tk9 hi ⟨oc1, ps1, R, rfl, ⟨vc1, hoc1⟩, HT1, h301, hL1, hsub⟩ F9 N9 hne hlt
    have hsm1 : ∀ z, (["due", "told"] : List Str).contains z = false → ¬ z = "due" := fun z h3 => by
      simp only [List.contains_cons, List.contains_nil, Bool.or_false, Bool.or_eq_false_iff, beq_eq_false_iff_ne, ne_eq] at h3
      exact h3.1
    have hsm2 : ∀ z, (["due", "told"] : List Str).contains z = false → ¬ z = "told" := fun z h3 => by
      simp only [List.contains_cons, List.contains_nil, Bool.or_false, Bool.or_eq_false_iff, beq_eq_false_iff_ne, ne_eq] at h3
      exact h3.2
    have hIc : @Ne Nat I (L + 1) := (hne _ (.head _)).symm
    have hI30 : @Ne Nat I 30 := (hne _ (.tail _ (.head _))).symm
    have hIR : ∀ p ∈ R, p.1 ≠ I := fun p hp => hne p (.tail _ (.tail _ hp))
    have hPR := (hPP.mono fun p hp => List.mem_append_left ((37, tabObj qs) :: (newS ++ rest)) hp).mono hsub
    have hTR : TupsAre R vs (S (reach c e) (c.length + 1)) := hTS.mono fun p hp => hsub p (List.mem_append_right _ (.tail _ (List.mem_append_left _ hp)))
    have hmR : (D, listOf vs.toArray k) ∈ R := hsub _ (List.mem_append_right _ (.tail _ (List.mem_append_left _ hmD)))
    have hlen : vs.length ≤ 13 := by
      have h1 := hTR.length
      have h2 := S_length (r := reach c e) (c.length + 1)
      omega
    clear F4 N4 F5 N5
    w_strict k_steps
    rename News _ _ _ _ => Nc
    rename Fr _ _ _ _ => Fc
    rename _ = Data.cell (some (Value.int (-1 + _) _)) => hoc'
    show LCt.CompSrcT _ _ _ _ _ _ _ _ _ _ _ _ _ _ _
    refine LCt.CompSrcT.ledger (its := vs.toArray) (k := k) rfl Fc Nc (.tail _ (.tail _ (.tail _ hmR))) (by rw [List.size_toArray, PySem.sizeLine_eq]; omega) ?_
    intro g9
    rw [List.size_toArray]
    refine comp_filter (okStep (-1 + i)) (bs := R) (ST := S (reach c e) (c.length + 1)) hTR (fun i v h => by simpa using h) (.inr ⟨_, .tail _ (.tail _ (.tail _ hmR)), rfl, _, rfl⟩) ?_ ?_
    · intro a1 b1 T1 t1 t2 I1 oI1 C1 oC1 D1 m1 ys1 h1 tk1 E1 hm1 hC1 hx1 Fx Nx
      have hmA := mem_under6 Nx hm1
      have hmC := mem_fifth Nx
      w_strict k_steps
      · exact Kept.intro (by k_asm) (by k_asm) (ok_of (by assumption) (by assumption))
      · exact Kept.intro (by k_asm) (by k_asm) (no_of (by omega))
      · exact Kept.intro (by k_asm) (by k_asm) (no_of (by omega))
    · intro ys1 hys1 Dn hn tkn Fn Nn offn
      have o1 : @Ne Nat I Dn := offn.1
      have o2 : @Ne Nat (L + 1) Dn := offn.2.1
      have o3 : @Ne Nat 30 Dn := offn.2.2.1
      have hlen1 : ys1.length ≤ 13 := by
        have h1 := hys1.length
        have h2 := List.length_filter_le (okStep (-1 + i)) (S (reach c e) (c.length + 1))
        have h3 := S_length (r := reach c e) (c.length + 1)
        omega
      clear Fc Nc
      w_strict k_steps
      rename News _ _ _ _ => Nc
      rename Fr _ _ _ _ => Fc
      unfold RevAside
      refine rev_call3 B Fc X Nc HT1 CH (Ne.symm o3) hI30 (by dsimp only; omega) h301 T rfl ?_ ?_ hPR (by omega) hc ?_
      · ktr_room
      · ktr_units
      · intro v9 ps9 rest9 h9 tk9 hF9 F9 N9 hm91 hm92 hm93 hR9 h309 HT9
        have hT9 : TupsAre rest9 ys1 (due (reach c e) c.length (-1 + i)) := hys1.mono hR9
        clear Fc Nc
        rcases hF9 with ⟨hD9, rfl⟩ | ⟨pre9, a9, b9, f9, hD9, rfl, hH9⟩
        · dsimp only
          w_strict k_steps
          · rename News _ _ _ _ => Nz
            have sub9 : ∀ p ∈ rest9, p ∈ _ := fun p hp => sub_of3 Nz hp
            exact turn_end (by assumption) (tail_turn Nz (mem_third Nz) sub9 hm92 hm93) (apart_ne hIc hI30) (stay2 hsm1 hsm2) ⟨_, ps9, _, rfl, ⟨_, hoc'⟩, hitTab_apart (fun p hp => Nz p (sub9 p hp)) HT9 hm93 hoc' hm92, fun p hp => h309 p (List.mem_filter.mp hp).1, apart_L, fun p hp => apart_sub (hR9 p (hsub p hp)) (hL1 p (hsub p hp)) (hIR p (hsub p hp))⟩
          · exact absurd (last_nil hD9) (by first | assumption | exact of_decide_eq_false (by assumption))
        · dsimp only
          w_strict k_steps
          · rename News _ _ _ _ => Nz
            have sub9 : ∀ p ∈ rest9, p ∈ _ := fun p hp => sub_of4 Nz hp
            exact turn_end (by assumption) (tail_turn Nz (mem_fourth Nz) sub9 hm92 hm93) (apart_ne hIc hI30) (stay2 hsm1 hsm2) ⟨_, ps9, _, rfl, ⟨_, hoc'⟩, hitTab_apart (fun p hp => Nz p (sub9 p hp)) HT9 hm93 hoc' hm92, fun p hp => h309 p (List.mem_filter.mp hp).1, apart_L, fun p hp => apart_sub (hR9 p (hsub p hp)) (hL1 p (hsub p hp)) (hIR p (hsub p hp))⟩
          · exact absurd (last_one hD9) (by first | assumption | exact of_decide_eq_false (by assumption))
  case done =>
    rintro um news₁ h9 tk9 ⟨oc1, ps1, R, rfl, ⟨vc1, hoc1⟩, HT1, h301, hL1, hsub⟩ F9 N9
    w_strict k_steps
    exact hret _ _ _ _ _ _ F9 N9 (.tail _ (.head _)) (.tail _ (.tail _ (hsub _ (List.mem_append_right _ (.head _)))))
end Mine

/- part: Law -/
namespace Mine
def CompAsideU (prog : Program) (w : World) (A : Around) (h₀ : Heap) (L : Addr) (m : Str → Option Value) (env : Env) (elt : PySem.Expr) (x : Str) (scope : Scope) (cl : List (Str × Addr)) (Fin : Shared → List Value → List (Addr × Obj) → Prop) (xv : Value) (s₁ : Shared) : Prop :=
  LCg.CompSrc prog w A h₀ L m env elt x scope cl Fin xv s₁
section
variable {prog : Program} {w : World} {A : Around} {E : Value → Shared → Prop} {s : Shared} {h₀ : Heap} {L : Addr} {m : Str → Option Value} {env : Env}
theorem comp_asideU {elt iter : PySem.Expr} {x : Str} {px : Pos} {scope : Scope} {cl : List (Str × Addr)} {pos : Pos} {Q : Value → Shared → Prop} (F₀ : Fr h₀ L s.heap m)
    (hclos : closureFor scope env = pure cl) (hcell : ∀ y ∈ scope.names, y.2 ≠ .cell) (hkind : scope.kind = .function)
    (hnames : ∀ y ∈ scope.names, y.2 = .local → scope.names.lookup y.1 = some .local) (hx : scope.names.lookup x = some .local)
    (h : wpAny (model prog w) A (eval iter env) (CompAsideU prog w A h₀ L m env elt x scope cl (fun s₂ => LCg.FinE h₀ L m s₂ Q)) E s)
    (hs : ∀ x, foldedSetIterable iter env x = pure x := by intro _; rfl) :
    wpAny (model prog w) A (eval (.ListComp elt [⟨.Name x px, iter, [], 0⟩] scope pos) env) Q E s := LCg.ListComp_U F₀ hclos hcell hkind hnames hx h hs
theorem comp_srcU {elt : PySem.Expr} {x : Str} {scope : Scope} {cl : List (Str × Addr)} {Fin : Shared → List Value → List (Addr × Obj) → Prop} {ax : Addr} {its : Array Value} {k : Nat} {news : List (Addr × Obj)} {s₁ : Shared}
    (hh : A.handled = none) (F : Fr h₀ L s₁.heap m) (N : News h₀ L s₁.heap news) (hm : (ax, ({ cls := .type "list", data := .seq its k } : Obj)) ∈ news) (hsz : its.size ≤ sizeLine)
    (h : ∀ g, LCg.CompRest prog w A h₀ L m env elt x scope cl { s₁ with heap := g } (LCg.SrcAt h₀ ax its) (fun i v => its[i]? = some v) (Fin { s₁ with heap := g }) its.size 0 [] news) :
    CompAsideU prog w A h₀ L m env elt x scope cl Fin (.ref ax) s₁ := LCg.CompSrc.ledger hh F N hm hsz h
end
/-- the sign that a number stands for -/
abbrev sign (k : Int) : Str := Txt.item (Str.ofString "-01234") (k.fmod 6)
theorem sign_one (k : Int) : (sign k).length = 1 := by
  have h1 := fmod_lo k (n := 6) (by decide)
  have h2 := fmod_hi k (n := 6) (by decide)
  unfold sign
  generalize k.fmod 6 = r at h1 h2
  have : r = 0 ∨ r = 1 ∨ r = 2 ∨ r = 3 ∨ r = 4 ∨ r = 5 := by omega
  rcases this with rfl | rfl | rfl | rfl | rfl | rfl <;> decide
local macro_rules | `(tactic| walk_at "eval ListComp") => `(tactic| (k_here; k_dflt (refine comp_asideU (F₀ := by k_asm) (by with_unfolding_all rfl) (by decide) (by rfl) (by decide) (by rfl) ?_)))
local macro_rules | `(tactic| walk_at "CompAsideU") => `(tactic| (k_here; k_dflt (refine comp_srcU (by rfl) (by k_asm) (by k_asm) (by k_mem) (by kcf_size) ?_; intro g'; (refine' kct_list sign (by first | assumption | l_ints) (fun k' t' I' oI' C' oC' D' m' ys' h' tk' E' hk' hC' hx' F' N' off' ne' hM' => ?_) ?_); (all_goals (try (simp only [LCg.Off3, and_true] at off'))); (all_goals try k_fold))))
section
variable {prog : Program} {w : World} {A : Around} {E : Value → Shared → Prop} {s : Shared} {D : Addr} {ys : List Value} {l : List Int} {t : Tok} {Q : Value → Shared → Prop}
theorem join_any (hl : s.heap.IsList D ys.toArray) (hc : CarriedAll ys (l.map fun a => PyData.str (sign a))) (hn : l.length ≤ 12) (h : ∀ (c : Str) t' k, c.length ≤ 12 → Q (.str c t') { s with toks := k }) :
    wpAny (model prog w) A (call (.builtin "str.join") [.str (PySem.Str.ofString "") t, .ref D]) Q E s :=
  KT.join_1 hl hc (fun a _ => sign_one a) (by omega) fun t' k e => h _ t' k (by omega)
end
def TailAside (P : Prop) : Prop := P
theorem tail_aside {prog : Program} {w : World} {A : Around} {Q : Flow → Shared → Prop} {E : Value → Shared → Prop} {s : Shared} {body : List Stmt} {env : Env} (h : TailAside (wpAny (model prog w) A (execs body env) Q E s)) : wpAny (model prog w) A (execs body env) Q E s := h
local macro_rules | `(tactic| walk_at "call builtin:str.join") => `(tactic| (k_here; (with_reducible show wpAny _ _ (call (Value.builtin "str.join") [Value.str _ _, Value.ref _]) _ _ _); (with_reducible rename CarriedAll _ (List.map _ _) => ktC); refine join_any (by first | assumption | is_list | exact News.isList (by k_asm) (by k_mem)) ktC (by first | (rw [List.length_take]; omega) | decide) ?_; intro c9 t9 k9 hc9; (try dsimp only)))
local macro_rules | `(tactic| walk_at "execs cons") => `(tactic| ((with_reducible show wpAny _ _ (execs (Stmt.Assign [PySem.Expr.Name (Str.ofString "steps") _] _ _ :: _) _) _ _ _); refine tail_aside ?_))
theorem law_tail' : ∀ {w : World} {pp : Program} {lo : List Str} {mean : ExcName → Option Value} {mg mb : Str → Option Value} {base h₀ : Heap} {L fa : Addr} {cd : Value} {m0 : Str → Option Value} {oc : Obj} {vc : Option Value} {s : Shared} {Q : Flow → Shared → Prop} {E : Value → Shared → Prop} {c : Str} {tc : Tok} {e : Bool} {sc : Scope} {body : List Stmt} {news : List (Addr × Obj)},
    sc = fnScope lawDef → body = (fnBody lawDef).drop 3 → Below callerA base [] h₀ → Fr h₀ L s.heap (fun y => if y = "chars" then some (.str c tc) else if y = "ending" then some (.bool e) else m0 y) → (hd.heap_39 w.params).In h₀ → News h₀ L s.heap news → (∀ p ∈ [(L + 1, oc), (30, tabObj #[]), (37, tabObj #[])], p ∈ news) → oc.data = .cell vc →
    @LT.lt Nat _ 37 L → CodeHd base 34 30 → CodeHd base 41 37 → Top pp lo mean mg mb h₀ → c.length ≤ 12 →
    PassesOwn (model PySem.Challenge.rw_ki0033_01.row.prog w) (callerA.deeper (envOfC "law" sc L fa cd)) (envOfC "law" sc L fa cd) E →
    (∀ h' tk m' news' ps qs, Fr h₀ L h' m' → News h₀ L h' news' → (30, tabObj ps) ∈ news' → (37, tabObj qs) ∈ news' → Q (.ret (.bool true)) { s with heap := h', toks := tk }) →
    TailAside (wpAny (model PySem.Challenge.rw_ki0033_01.row.prog w) (callerA.deeper (envOfC "law" sc L fa cd)) (execs body (envOfC "law" sc L fa cd)) Q E s) := by
  intro w pp lo mean mg mb base h₀ L fa cd m0 oc vc s Q E c tc e sc body news hsc hbody B F X N hsub hoc hL C1 C2 T hc hE hret
  subst hsc hbody
  exact law_tail (rest := []) B F X (fun p hp => N p (hsub p hp)) hoc (fun _ h => nomatch h) (fun _ h => nomatch h) (fun _ h => nomatch h) hL C1 C2 T hc hE hret
theorem law_holds : PySem.Challenge.rw_ki0033_01.Holds := by
  refine hd ?_
  w_on
  w_strict (k_go0; (all_goals try k_fold); k_steps)
  · rename News _ _ _ _ => Nz
    rename Fr _ _ _ _ => Fz
    rename Below _ _ _ _ => Bz
    rename Top _ _ _ _ _ _ => Tz
    refine' law_tail' ?s1 ?s2 Bz Fz ?s4 Nz ?s5 ?s6 ?s7 ?s8 ?s9 Tz ?s11 ?s12 ?s13
    case s4 => assumption
    case s5 => exact fun p hp => .tail _ (.tail _ hp)
    case s6 => assumption
    case s7 => omega
    case s8 => assumption
    case s9 => assumption
    case s11 => assumption
    case s1 => rfl
    case s2 => rfl
    case s12 => passes_own
    case s13 =>
      intro h9 tk9 m9 news9 ps9 qs9 F9 N9 m30 m37
      clear Fz Nz
      refine ⟨?_, GrownAt.of N9 m30, GrownAt.of N9 m37, True.intro⟩
      w_strict wrow_close
  · rename News _ _ _ _ => Nz
    rename Fr _ _ _ _ => Fz
    rename Below _ _ _ _ => Bz
    rename Top _ _ _ _ _ _ => Tz
    refine' law_tail' ?s1 ?s2 Bz Fz ?s4 Nz ?s5 ?s6 ?s7 ?s8 ?s9 Tz ?s11 ?s12 ?s13
    case s4 => assumption
    case s5 => exact fun p hp => .tail _ (.tail _ (.tail _ hp))
    case s6 => assumption
    case s7 => omega
    case s8 => assumption
    case s9 => assumption
    case s11 => assumption
    case s1 => rfl
    case s2 => rfl
    case s12 => passes_own
    case s13 =>
      intro h9 tk9 m9 news9 ps9 qs9 F9 N9 m30 m37
      clear Fz Nz
      refine ⟨?_, GrownAt.of N9 m30, GrownAt.of N9 m37, True.intro⟩
      w_strict wrow_close
end Mine
theorem PySem.Challenge.cw_ki0033_01_holds : PySem.Challenge.rw_ki0033_01.Holds :=
  Mine.law_holds
