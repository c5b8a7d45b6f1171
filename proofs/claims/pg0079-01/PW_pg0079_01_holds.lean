import PyProof.Rows.All
import Wide.All
import OpenK.AllK
import Wide.FinOn
import PySem.Challenge.RW_pg0079_01
set_option Elab.async false
set_option rowWalk.seconds 0
section HeadPart
open PySem PySem.W PyProof.Rows
set_option Elab.async false
set_option maxRecDepth 100000
set_option maxHeartbeats 8000000
namespace Mine
open_top hd for PySem.Challenge.rw_pg0079_01
end Mine
set_option pp.deepTerms false
end HeadPart
section BasePart
open PySem PySem.W PyProof.Rows PySem.Calls
set_option Elab.async false
set_option maxRecDepth 100000
set_option maxHeartbeats 2000000
namespace Mine
abbrev Pg : Program := PySem.Challenge.rw_pg0079_01.row.prog

theorem fill : ∀ w : World, (fun (_ : OpenLaw) (_ : Frag) => True) PySem.Challenge.rw_pg0079_01 (Mine.hd.heap_39 w.params) := by
  w_top off
  k_fill
  intros
  trivial

/-- what stands under every frame of the call -/
structure Gnd (w : World) (h : Heap) : Prop where
  K : (Mine.hd.heap_39 w.params).In h
  T : ∃ mean mg mb, Top Mine.hd.view_39 (looseW Mine.hd.view_39 []) mean mg mb h
theorem Gnd.keeps {w : World} {h h' : Heap} (G : Gnd w h) (k : ∀ b o, h.get? b = some o → h'.get? b = some o) : Gnd w h' :=
  ⟨G.K.keeps k, let ⟨a, b, c, T⟩ := G.T; ⟨a, b, c, T.keeps k⟩⟩

/-- room for frames and C units -/
structure Room (A : Around) (d : Nat) : Prop where
  hd : A.handled = none
  dep : A.depth + d < recursionLimit
  un : A.units + 8 * d < cLine

theorem enter_plain {w : World} {A : Around} {s : Shared} {f : Addr} {vs : List Value} {Q : Value → Shared → Prop} {d : Nat}
    {name qual : Str} {params : Arguments} {body : List Stmt} {scope : Scope} {dV kV doc pm cdv ct oc : Value} {an od : Option Addr} {osl : Array (Option Value)} {binds : List (Str × Value)}
    (G : Gnd w s.heap) (hr : Room A (d + 1))
    (ho : (Mine.hd.heap_39 w.params).lookup f = some ⟨oc, od, .func (fnOf name qual params body scope dV kV doc pm an cdv ct), osl⟩)
    (hcd : codeIn (Mine.hd.heap_39 w.params) cdv qual = true)
    (hbind : BindsTo s (fnOf name qual params body scope dV kV doc pm an cdv ct) ⟨vs, []⟩ binds)
    (hloc : ∀ y ∈ binds, scope.names.lookup y.1 = some .local)
    (hco : scope.isCoroutine = false) (hgen : scope.isGenerator = false) (hk : scope.kind = .function)
    (hcell : ∀ x ∈ scope.names, x.2 ≠ .cell)
    (h : ∀ L h₁ dp fr gd un, Fr s.heap L h₁ (fun y => binds.reverse.lookup y) → Room ⟨none, dp, fr, gd, un⟩ d →
      wpAny (model Pg w) ⟨none, dp, fr, gd, un⟩ (execs body (envOf qual scope L f cdv))
        (fun fl s' => Q (match fl with | .ret v => v | _ => .none) s') (fun _ _ => False)
        { s with heap := h₁, toks := s.toks + binds.length }) :
    wpAny (model Pg w) A (call (.ref f) vs) Q (fun _ _ => False) s := by
  obtain ⟨X, mean, mg, mb, T⟩ := G
  obtain ⟨hd, dp, fr, gd, un⟩ := A
  have e : hd = none := hr.hd
  subst e
  refine wpAny_call (codeAny_call_def (fd := fnOf name qual params body scope dV kV doc pm an cdv ct) (body := body) (binds := binds) (Nat.lt_of_le_of_lt (Nat.le_add_right _ _) hr.dep) (X _ _ ho) rfl T.nolimit (codeRec_of X hcd) rfl hbind hcell hloc (fun h₁ hns hk₁ => ?_) hco hgen hk)
  refine wpAny_mono (h s.heap.objs.size h₁ _ _ _ _ ⟨hns, hk₁, Nat.le_refl _⟩ ⟨rfl, ?_, ?_⟩) (fun _ _ x => x) fun _ _ x => x.elim
  · have := hr.dep
    dsimp only at this ⊢
    omega
  · have := hr.un
    dsimp only at this ⊢
    omega
end Mine
end BasePart
section HAPart
open PySem PySem.W PyProof.Rows PySem.Calls
set_option Elab.async false
set_option maxRecDepth 100000
set_option maxHeartbeats 2000000
namespace Mine
namespace HA
theorem lk : typeLookup (.type "str") "__getitem__" = pure (some (.builtin "str.__getitem__")) := by rw [typeLookup_type, builtinLookup_eq_fast]; kernel_rfl
theorem ty : typeOf (.builtin "str.__getitem__") = pure (.type "wrapper_descriptor") := by show builtinType _ = _; rw [builtinType_eq_fast]; kernel_rfl
theorem slot_get : Slot "wrapper_descriptor" "__get__" "wrapper_descriptor.__get__" :=
  .of (owner := "wrapper_descriptor") (n := "__get__") (by rw [typeLookup_type, builtinLookup_eq_fast]; kernel_rfl) (by decide +kernel) (by decide +kernel) (by decide +kernel)
    (by first | exact .inl (by decide +kernel) | exact .inr (by decide +kernel)) (by rw [isSubtype_type]; kernel_rfl)
theorem no_set : typeLookup (.type "wrapper_descriptor") "__set__" = pure none := by rw [typeLookup_type, builtinLookup_eq_fast]; kernel_rfl
theorem no_del : typeLookup (.type "wrapper_descriptor") "__delete__" = pure none := by rw [typeLookup_type, builtinLookup_eq_fast]; kernel_rfl
theorem entry_get : entryFor table "wrapper_descriptor.__get__" = some Builtin.«wrapper_descriptor.__get__» := entryFor_of_tree (by kernel_rfl)
theorem args_get (a b c : Value) : argsOk "wrapper_descriptor.__get__" ⟨[a, b, c], []⟩ := by unfold argsOk; kernel_rfl
theorem kind : builtinKind "hasattr" = none := by decide +kernel
theorem plain : plainId "hasattr" = true := by decide +kernel
theorem entry : entryFor table "hasattr" = some Builtin.«hasattr» := entryFor_of_tree (by kernel_rfl)
theorem args (a b : Value) : argsOk "hasattr" ⟨[a, b], []⟩ := by unfold argsOk; kernel_rfl
theorem owner : (".".intercalate ("str.__getitem__".cutAt '.').dropLast) = "str" := by
  have e0 : "str.__getitem__".cutAt '.' = ["str", "__getitem__"] := by first | rfl | decide +kernel
  rw [e0]; decide +kernel
theorem sub_str : isSubtype (.type "str") (.type (".".intercalate ("str.__getitem__".cutAt '.').dropLast)) = pure true := by rw [owner, isSubtype_type]; kernel_rfl
def bound (x : Str) (u : Tok) : Obj := { cls := .type "method-wrapper", data := .fields #[.builtin "str.__getitem__", .str x u] }
end HA
section
variable {prog : Program} {w : World} {A : Around} {E : Value → Shared → Prop} {h : Heap} {g : Array GenState} {d : Drawn} {t : Nat} {os : OsState} {x : Str} {u : Tok}
set_option pp.deepTerms false
theorem ha_get {R : Result → Shared → Prop} (hq : R (.ok (.ret (.ref h.objs.size))) ⟨h.push (HA.bound x u), g, d, t, os⟩) :
    codeAny (model prog w) A (.call (.builtin "wrapper_descriptor.__get__") ⟨[.builtin "str.__getitem__", .str x u, .type "str"], []⟩) R ⟨h, g, d, t, os⟩ := by
  have hT : (⟨h, g, d, t, os⟩ : Shared).TypeIs (.str x u) "str" := rfl
  have hT5 : (⟨h, g, d, t, os⟩ : Shared).TypeIs (.builtin "str.__getitem__") "wrapper_descriptor" := HA.ty
  have f8 := HA.sub_str
  refine codeAny_call_builtin HA.slot_get.plain HA.entry_get (HA.slot_get.check _ _ _ _ _ _ _ _ hT5 (HA.args_get _ _ _) ?_)
  unfold Builtin.«wrapper_descriptor.__get__»
  repeat (any_goals (first | assumption | wp_step))

theorem ha_entry {tk : Tok} {Q : Fin → Shared → Prop} (hq : Q (.done (.ret (.ref h.objs.size))) ⟨h.push (HA.bound x u), g, d, t, os⟩) :
    wpAny (model prog w) A (Builtin.«object.__getattribute__» ⟨[.str x u, .str "__getitem__" tk], []⟩) Q E ⟨h, g, d, t, os⟩ := by
  have hT : (⟨h, g, d, t, os⟩ : Shared).TypeIs (.str x u) "str" := rfl
  have hT5 : (⟨h, g, d, t, os⟩ : Shared).TypeIs (.builtin "str.__getitem__") "wrapper_descriptor" := HA.ty
  have f4 := HA.lk
  have f5 := HA.ty
  have f6 := HA.slot_get.lookup
  have f7 := HA.no_set
  have f8 := HA.no_del
  repeat (any_goals (first | assumption | wp_step))
  refine ha_get ?_
  repeat (any_goals (first | assumption | wp_step))

theorem ha_call {tk : Tok} {R : Result → Shared → Prop} (hq : R (.ok (.ret (.ref h.objs.size))) ⟨h.push (HA.bound x u), g, d, t, os⟩) :
    codeAny (model prog w) A (.call (.builtin "object.__getattribute__") ⟨[.str x u, .str "__getitem__" tk], []⟩) R ⟨h, g, d, t, os⟩ :=
  codeAny_call_builtin F.slot_str_getattribute.plain F.entry_object_getattribute (F.slot_str_getattribute.check _ _ _ _ _ _ _ _ (show (⟨h, g, d, t, os⟩ : Shared).TypeIs (.str x u) "str" from rfl) (F.args_object_getattribute_2 _ _) (ha_entry hq))

theorem ha_by {tk : Tok} {Q : Value → Shared → Prop} (hq : Q (.ref h.objs.size) ⟨h.push (HA.bound x u), g, d, t, os⟩) : wpAny (model prog w) A (getAttrBy (.str x u) (.str "__getitem__" tk) false) Q E ⟨h, g, d, t, os⟩ := by
  have hT : (⟨h, g, d, t, os⟩ : Shared).TypeIs (.str x u) "str" := rfl
  have f2 := F.slot_str_getattribute.lookup
  have f3 := F.slot_str_getattribute.bind (.str x u)
  repeat (any_goals (first | assumption | wp_step))
  refine ha_call ?_
  repeat (any_goals (first | assumption | wp_step))

theorem hasattr_str {s : Shared} {tk : Tok} {Q : Value → Shared → Prop} (hq : Q (.bool true) { s with heap := s.heap.push (HA.bound x u) }) :
    wpAny (model prog w) A (call (.builtin "hasattr") [.str x u, .str (PySem.Str.ofString "__getitem__") tk]) Q E s := by
  obtain ⟨h, g, d, t, os⟩ := s
  refine call_function_entry HA.kind HA.plain HA.entry (HA.args _ _) ?_
  have hT : (⟨h, g, d, t, os⟩ : Shared).TypeIs (.str x u) "str" := rfl
  have f4 := HA.lk
  have f2 := F.slot_str_getattribute.lookup
  unfold Builtin.«hasattr»
  refine wpAny_bind (wpAny_of_eq (a := [.str x u, .str (PySem.Str.ofString "__getitem__") tk]) (by first | rfl | kernel_rfl) ?_)
  dsimp only
  refine wpAny_bind (wpAny_of_eq (a := ()) (by first | rfl | kernel_rfl) ?_)
  refine KFB.if_not (by rfl) ?_
  refine wpAny_bind (wpAny_of_eq (a := .type "str") (by rfl) ?_)
  dsimp only
  refine wpAny_bind (wpAny_of_eq (a := some (PySem.Str.ofString "__getitem__")) (by rfl) ?_)
  dsimp only
  refine wpAny_bind (wpAny_of_eq f4 ?_)
  dsimp only
  refine wpAny_bind (wpAny_of_eq f2 ?_)
  refine KFB.if_not (by decide +kernel) ?_
  refine wpAny_bind (wpAny_of_eq (a := 0) (by first | rfl | kernel_rfl) ?_)
  refine KFB.if_not (by rfl) ?_
  refine wpAny_bind ?_
  unfold getAttrBy?
  refine wpAny_bind (wpAny_attempt (ha_by ?_))
  refine wpAny_pure ?_
  refine KFB.if_not (by rfl) ?_
  exact wpAny_pure ⟨_, rfl, hq⟩
end
end Mine
end HAPart
section FnsPart
open PySem PySem.W PyProof.Rows PySem.Calls
set_option Elab.async false
set_option maxRecDepth 100000
set_option maxHeartbeats 2000000
namespace Mine
theorem fill1 : ∀ w : World, (fun (_ : OpenLaw) (_ : Frag) => True) PySem.Challenge.rw_pg0079_01 (Mine.hd.heap_39 w.params) := by
  w_top off
  k_fill
  intros
  trivial
local macro_rules | `(tactic| walk_at "mine enter") => `(tactic| (refine' enter_plain (by assumption) (by assumption) ?k6 ?k7 ?k9 ?kB ?c2 ?c3 ?c4 ?c5 ?_; (case k6 => k_is); (case k7 => k_is); (case k9 => exact BindsTo.of_eq rfl); (case kB => exact locs rfl); (case c2 => exact rfl); (case c3 => exact rfl); (case c4 => exact rfl); (case c5 => decide)))
set_option pp.deepTerms false
set_option pp.deepTerms.threshold 4
theorem hasattr_K {prog : Program} {w : World} {A : Around} {E : Value → Shared → Prop} {s : Shared} {h₀ : Heap} {L : Addr} {m : Str → Option Value} {news : List (Addr × Obj)} {x : Str} {u tk : Tok} {Q : Value → Shared → Prop}
    (F : Fr h₀ L s.heap m) (N : News h₀ L s.heap news) (h : ∀ h', Fr h₀ L h' m → News h₀ L h' news → Q (.bool true) { s with heap := h' }) :
    wpAny (model prog w) A (call (.builtin "hasattr") [.str x u, .str (PySem.Str.ofString "__getitem__") tk]) Q E s :=
  hasattr_str (h _ (F.push _) (N.grown fun _ _ e => Heap.get?_push_of_some _ e))
local macro_rules | `(tactic| walk_at "call builtin:hasattr") => `(tactic| (k_dflt (refine hasattr_K (by k_asm) (by k_asm) ?_); intro h' F' N'; try dsimp only))

/-- what a call of a plain def leaves: all that stood, a value -/
abbrev Ret (s : Shared) (Q : Value → Shared → Prop) (v : Value) : Prop :=
  ∀ h' tk, (∀ b o, s.heap.get? b = some o → h'.get? b = some o) → Q v { s with heap := h', toks := tk }

/-- an int that the call has made -/
abbrev RetI (s : Shared) (Q : Value → Shared → Prop) (n : Int) : Prop :=
  ∀ t h' tk, (∀ b o, s.heap.get? b = some o → h'.get? b = some o) → s.toks ≤ t → t < tk → Q (.int n t) { s with heap := h', toks := tk }

theorem add_spec {w : World} {A : Around} {s : Shared} {x y : Int} {tx ty : Tok} {Q : Value → Shared → Prop} (G : Gnd w s.heap) (hr : Room A (0 + 1))
   (h : RetI s Q (x + y)) :
   wpAny (model Pg w) A (call (.ref 21) [.int x tx, .int y ty]) Q (fun _ _ => False) s := by
  walk_at "mine enter"
  obtain ⟨X, mean, mg, mb, T⟩ := G
  intro L h₁ dp fr gd un F hr'
  have N : News s.heap L h₁ [] := News.nil
  try dsimp only
  k_steps
  exact h _ _ _ F.keep (Nat.le_add_right _ _) (Nat.lt_succ_self _)
theorem sub_spec {w : World} {A : Around} {s : Shared} {x y : Int} {tx ty : Tok} {Q : Value → Shared → Prop} (G : Gnd w s.heap) (hr : Room A (0 + 1))
   (h : RetI s Q (x - y)) :
   wpAny (model Pg w) A (call (.ref 35) [.int x tx, .int y ty]) Q (fun _ _ => False) s := by
  walk_at "mine enter"
  obtain ⟨X, mean, mg, mb, T⟩ := G
  intro L h₁ dp fr gd un F hr'
  have N : News s.heap L h₁ [] := News.nil
  try dsimp only
  k_steps
  exact h _ _ _ F.keep (Nat.le_add_right _ _) (Nat.lt_succ_self _)
theorem mul_spec {w : World} {A : Around} {s : Shared} {x y : Int} {tx ty : Tok} {Q : Value → Shared → Prop} (G : Gnd w s.heap) (hr : Room A (0 + 1))
   (_hx0 : 0 ≤ x) (_hx : x ≤ 2) (_hy0 : 0 ≤ y) (_hy : y ≤ 1000)
   (h : RetI s Q (x * y)) :
   wpAny (model Pg w) A (call (.ref 28) [.int x tx, .int y ty]) Q (fun _ _ => False) s := by
  walk_at "mine enter"
  obtain ⟨X, mean, mg, mb, T⟩ := G
  intro L h₁ dp fr gd un F hr'
  have N : News s.heap L h₁ [] := News.nil
  try dsimp only
  k_steps
  exact h _ _ _ F.keep (Nat.le_add_right _ _) (Nat.lt_succ_self _)
theorem concat_spec {w : World} {A : Around} {s : Shared} {x y : Str} {tx ty : Tok} {Q : Value → Shared → Prop} (G : Gnd w s.heap) (hr : Room A (0 + 1))
   (hsz : x.length + y.length ≤ sizeLine)
   (h : ∀ t, Ret s Q (.str (x ++ y) t)) :
   wpAny (model Pg w) A (call (.ref 42) [.str x tx, .str y ty]) Q (fun _ _ => False) s := by
  walk_at "mine enter"
  obtain ⟨X, mean, mg, mb, T⟩ := G
  intro L h₁ dp fr gd un F hr'
  have N : News s.heap L h₁ [] := News.nil
  try dsimp only
  k_steps
  exact h _ _ _ (Fr.keep (by assumption))


section
variable {w : World} {A : Around} {s : Shared} {h₀ : Heap} {L : Addr} {m : Str → Option Value} {news : List (Addr × Obj)} {Q : Value → Shared → Prop}
theorem use_add {x y : Int} {tx ty : Tok} (G : Gnd w h₀) (F : Fr h₀ L s.heap m) (N : News h₀ L s.heap news) (hr : Room A (0 + 1))
    (h : ∀ t h' tk, Fr h₀ L h' m → News h₀ L h' news → s.toks ≤ t → t < tk → Q (.int (x + y) t) { s with heap := h', toks := tk }) :
    wpAny (model Pg w) A (call (.ref 21) [.int x tx, .int y ty]) Q (fun _ _ => False) s :=
  add_spec (G.keeps F.keep) hr fun t h' tk k h1 h2 => h t h' tk (F.keeps k) (N.grown k) h1 h2
theorem use_sub {x y : Int} {tx ty : Tok} (G : Gnd w h₀) (F : Fr h₀ L s.heap m) (N : News h₀ L s.heap news) (hr : Room A (0 + 1))
    (h : ∀ t h' tk, Fr h₀ L h' m → News h₀ L h' news → s.toks ≤ t → t < tk → Q (.int (x - y) t) { s with heap := h', toks := tk }) :
    wpAny (model Pg w) A (call (.ref 35) [.int x tx, .int y ty]) Q (fun _ _ => False) s :=
  sub_spec (G.keeps F.keep) hr fun t h' tk k h1 h2 => h t h' tk (F.keeps k) (N.grown k) h1 h2
theorem use_mul {x y : Int} {tx ty : Tok} (G : Gnd w h₀) (F : Fr h₀ L s.heap m) (N : News h₀ L s.heap news) (hr : Room A (0 + 1)) (hx0 : 0 ≤ x) (hx : x ≤ 2) (hy0 : 0 ≤ y) (hy : y ≤ 1000)
    (h : ∀ t h' tk, Fr h₀ L h' m → News h₀ L h' news → s.toks ≤ t → t < tk → Q (.int (x * y) t) { s with heap := h', toks := tk }) :
    wpAny (model Pg w) A (call (.ref 28) [.int x tx, .int y ty]) Q (fun _ _ => False) s :=
  mul_spec (G.keeps F.keep) hr hx0 hx hy0 hy fun t h' tk k h1 h2 => h t h' tk (F.keeps k) (N.grown k) h1 h2
theorem use_concat {x y : Str} {tx ty : Tok} (G : Gnd w h₀) (F : Fr h₀ L s.heap m) (N : News h₀ L s.heap news) (hr : Room A (0 + 1)) (hsz : x.length + y.length ≤ sizeLine)
    (h : ∀ t h' tk, Fr h₀ L h' m → News h₀ L h' news → Q (.str (x ++ y) t) { s with heap := h', toks := tk }) :
    wpAny (model Pg w) A (call (.ref 42) [.str x tx, .str y ty]) Q (fun _ _ => False) s :=
  concat_spec (G.keeps F.keep) hr hsz fun t h' tk k => h t h' tk (F.keeps k) (N.grown k)
end
theorem Room.less {A : Around} {d e : Nat} (h : Room A d) (he : e ≤ d) : Room A e := ⟨h.hd, Nat.lt_of_le_of_lt (Nat.add_le_add_left he _) h.dep, Nat.lt_of_le_of_lt (Nat.add_le_add_left (Nat.mul_le_mul_left 8 he) _) h.un⟩
end Mine
end FnsPart
section LoopPart
open PySem PySem.W PyProof.Rows PySem.Calls
set_option Elab.async false
set_option maxRecDepth 100000
set_option maxHeartbeats 2000000
namespace Mine
/-- every object but those at X stays -/
def But (X : List Addr) (h h' : Heap) : Prop := ∀ b o, b ∉ X → h.get? b = some o → h'.get? b = some o
theorem But.refl (X : List Addr) (h : Heap) : But X h h := fun _ _ _ e => e
theorem But.trans {X : List Addr} {h h' h'' : Heap} (a : But X h h') (b : But X h' h'') : But X h h'' := fun c o hc e => b c o hc (a c o hc e)
theorem But.mono {X Y : List Addr} {h h' : Heap} (a : But X h h') (s : ∀ b ∈ X, b ∈ Y) : But Y h h' := fun c o hc e => a c o (fun q => hc (s c q)) e
theorem But.nil {h h' : Heap} (a : But [] h h') : ∀ b o, h.get? b = some o → h'.get? b = some o := fun b o e => a b o (by simp) e

/-- every object that stands and is neither below nor the frame -/
def allNews (h₀ : Heap) (L : Addr) (h : Heap) : List (Addr × Obj) :=
  (List.range h.objs.size).filterMap fun a => if a = L ∨ (h₀.get? a).isSome = true then none else (h.get? a).map fun o => (a, o)
theorem mem_all {h₀ h : Heap} {L b : Addr} {o : Obj} (e : h.get? b = some o) (hL : b ≠ L) (h0 : h₀.get? b = none) : (b, o) ∈ allNews h₀ L h := by
  unfold allNews
  refine List.mem_filterMap.mpr ⟨b, List.mem_range.mpr (Heap.lt_size e), ?_⟩
  rw [if_neg (by rw [h0]; simp [hL]), e]
  rfl
theorem news_all {h₀ h : Heap} {L : Addr} : News h₀ L h (allNews h₀ L h) := by
  intro p hp
  unfold allNews at hp
  obtain ⟨a, _, ha⟩ := List.mem_filterMap.mp hp
  by_cases c : a = L ∨ (h₀.get? a).isSome = true
  · rw [if_pos c] at ha; cases ha
  · rw [if_neg c] at ha
    obtain ⟨o, ho, rfl⟩ := Option.map_eq_some_iff.mp ha
    refine ⟨ho, fun q => c (.inl q), ?_⟩
    cases q : h₀.get? a with
    | none => rfl
    | some x => exact absurd (.inr (by rw [q]; rfl)) c
theorem but_all {h₀ h h' : Heap} {L : Addr} {m m' : Str → Option Value} {news' : List (Addr × Obj)} (F : Fr h₀ L h m) (F' : Fr h₀ L h' m') (N' : News h₀ L h' news') (hs : ∀ p ∈ allNews h₀ L h, p ∈ news') : But [L] h h' := by
  intro b o hb e
  have hL : b ≠ L := by simpa using hb
  cases q : h₀.get? b with
  | none => exact (N' _ (hs _ (mem_all e hL q))).1
  | some x =>
    have := F.keep b x q
    rw [e] at this
    cases this
    exact F'.keep b _ q

def Turn (h₀ : Heap) (L : Addr) (s : Shared) (all : List (Addr × Obj)) (J : (Str → Option Value) → Heap → Prop) (Q : Flow → Shared → Prop) (f : Flow) (s' : Shared) : Prop :=
  match f with
  | .ret v => Q (.ret v) s'
  | .brk => Q .next s'
  | _ => ∃ h' tk m' news', s' = { s with heap := h', toks := tk } ∧ Fr h₀ L h' m' ∧ News h₀ L h' news' ∧ (∀ p ∈ all, p ∈ news') ∧ J m' h'
theorem Turn.next {h₀ : Heap} {L : Addr} {s : Shared} {all news' : List (Addr × Obj)} {J : (Str → Option Value) → Heap → Prop} {Q : Flow → Shared → Prop} {h' : Heap} {tk : Nat} {m' : Str → Option Value}
    (F : Fr h₀ L h' m') (N : News h₀ L h' news') (hs : ∀ p ∈ all, p ∈ news') (hj : J m' h') : Turn h₀ L s all J Q .next { s with heap := h', toks := tk } := ⟨h', tk, m', news', rfl, F, N, hs, hj⟩

section
variable {prog : Program} {w : World} {A : Around} {s : Shared} {env : Env} {h₀ : Heap} {m : Str → Option Value} {target : Expr} {body orelse : List Stmt} {I : Addr} {fp wr : List Addr} {n : Nat} {P Md : Nat → Value → Heap → Prop} {St : Nat → Heap → Prop} {Q : Flow → Shared → Prop}

theorem never_noted {M : Model} {A : Around} {α : Type} {t : Sem α} {Q : α → Shared → Prop} {E : Value → Shared → Prop} {s : Shared} (h : wpAny M A t Q (fun _ _ => False) s) : wpAny M A t Q E s :=
  wpAny_mono h (fun _ _ x => x) fun _ _ x => x.elim

theorem for_loop (W : KTurns prog w A target I fp wr n P Md St) (hLf : env.locals ∉ fp) (hwr : ∀ b ∈ wr, h₀.get? b = none) (hst : St 0 s.heap) (F : Fr h₀ env.locals s.heap m)
    (J : Nat → (Str → Option Value) → Heap → Prop) (hJ : ∀ i m h h', J i m h → But wr h h' → J i m h') (h0 : J 0 m s.heap)
    (step : ∀ i v m₁ h₁ tk₁ all, i < n → P i v h₁ → J i m₁ h₁ → Fr h₀ env.locals h₁ m₁ → News h₀ env.locals h₁ all → (∀ b o, h₁.get? b = some o → b ≠ env.locals → h₀.get? b = none → (b, o) ∈ all) → But (env.locals :: wr) s.heap h₁ → St (i + 1) h₁ →
      wpAny (model prog w) A (assign target env v) (fun _ s₂ => wpAny (model prog w) A (execs body env) (Turn h₀ env.locals s all (J (i + 1)) Q) (fun _ _ => False) s₂) (fun _ _ => False) { s with heap := h₁, toks := tk₁ })
    (done : ∀ h' tk m', Fr h₀ env.locals h' m' → But (env.locals :: wr) s.heap h' → J n m' h' → wpAny (model prog w) A (execs orelse env) Q (fun _ _ => False) { s with heap := h', toks := tk }) :
    codeAny (model prog w) A (.forLoop target (.ref I) body orelse env) (fun r s' => match r with | .ok f => Q f s' | .error _ => False) s := by
  have hLw : env.locals ∉ wr := fun h => hLf (W.sub _ h)
  have old : ∀ b o, h₀.get? b = some o → b ∉ wr := fun b o e hb => by rw [hwr b hb] at e; cases e
  refine codeAny_forLoop_any
    (fun k s' => ∃ h' tk m' i, s' = { s with heap := h', toks := tk } ∧ St i h' ∧ Fr h₀ env.locals h' m' ∧ But (env.locals :: wr) s.heap h' ∧ J i m' h' ∧ i ≤ n ∧ k = n + 1 - i) ?_ (n + 1)
    ⟨s.heap, s.toks, m, 0, rfl, hst, F, But.refl _ _, h0, Nat.zero_le _, rfl⟩
  rintro k s' ⟨h', tk, m', i, rfl, hst', F', B', hJ', hi, rfl⟩
  have next : ∀ h₁ : Heap, But wr h' h₁ → Fr h₀ env.locals h₁ m' ∧ But (env.locals :: wr) s.heap h₁ ∧ J i m' h₁ := fun h₁ hk₁ =>
    ⟨⟨F'.ns.at' fun o e => hk₁ _ o hLw e, fun b o e => hk₁ b o (old b o e) (F'.keep b o e), F'.above⟩, B'.trans (hk₁.mono fun b hb => List.mem_cons_of_mem _ hb), hJ _ _ _ _ hJ' hk₁⟩
  by_cases hlt : i < n
  · refine W.item i _ _ _ hlt hst' fun v h₁ tk₁ hMd hk₁ => ?_
    refine W.go i v _ _ _ hMd fun h₂ hP hst₂ hk₂ => ?_
    obtain ⟨F₂, B₂, J₂⟩ := next h₂ fun b o hb x => hk₂ b o hb (hk₁ b o hb x)
    refine never_noted (wpAny_mono (step i v m' h₂ tk₁ (allNews h₀ env.locals h₂) hlt hP J₂ F₂ news_all (fun b o e hL h0 => mem_all e hL h0) B₂ hst₂) (fun _ s₂ h₂' => never_noted (wpAny_mono h₂' (fun f s₃ h₃ => ?_) fun _ _ e => e)) fun _ _ e => e)
    have fin : (∃ h' tk m' news', s₃ = { s with heap := h', toks := tk } ∧ Fr h₀ env.locals h' m' ∧ News h₀ env.locals h' news' ∧ (∀ p ∈ allNews h₀ env.locals h₂, p ∈ news') ∧ J (i + 1) m' h') →
        ∃ k', k' < n + 1 - i ∧ ∃ h' tk m' i, s₃ = { s with heap := h', toks := tk } ∧ St i h' ∧ Fr h₀ env.locals h' m' ∧ But (env.locals :: wr) s.heap h' ∧ J i m' h' ∧ i ≤ n ∧ k' = n + 1 - i := by
      rintro ⟨h₄, tk₃, m₃, news₃, rfl, F₃, N₃, hs₃, J₃⟩
      have B₃ := but_all F₂ F₃ N₃ hs₃
      refine ⟨n + 1 - (i + 1), by omega, h₄, tk₃, m₃, i + 1, rfl, W.frame _ _ _ hst₂ fun b hb o e => B₃ b o (fun q => hLf (by rw [← List.mem_singleton.mp q]; exact hb)) e, F₃, B₂.trans (B₃.mono fun b hb => by rw [List.mem_singleton.mp hb]; exact List.mem_cons_self), J₃, hlt, rfl⟩
    cases f with
    | ret v => exact h₃
    | brk => exact h₃
    | cont => exact fin h₃
    | next => exact fin h₃
  · have hin : i = n := by omega
    subst hin
    refine W.done _ _ _ hst' fun h₁ tk₁ hk₁ => ?_
    obtain ⟨F₁, B₁, J₁⟩ := next h₁ hk₁
    exact never_noted (done h₁ tk₁ m' F₁ B₁ J₁)

theorem For_mine {iter : Expr} {pos : Pos}
    (h : wpAny (model prog w) A (eval iter env) (fun xv s₁ => wpAny (model prog w) A (pyIter xv) (fun it s₂ =>
      codeAny (model prog w) A (.forLoop target it body orelse env) (fun r s' => match r with | .ok f => Q f s' | .error _ => False) s₂) (fun _ _ => False) s₁) (fun _ _ => False) s)
    (hs : ∀ x, foldedSetIterable iter env x = pure x := by intro _; rfl) :
    wpAny (model prog w) A (exec (.For target iter body orelse pos) env) Q (fun _ _ => False) s :=
  wpAny_For (wpAny_mono h (fun _ _ h₁ => wpAny_mono h₁ (fun _ _ h₂ => codeAny_mono h₂ fun r s' x => by
    cases r with
    | ok f => exact x
    | error e => exact x.elim) fun _ _ x => x) fun _ _ x => x) hs
end
end Mine
end LoopPart
section Loop2Part
open PySem PySem.W PyProof.Rows PySem.Calls
set_option Elab.async false
set_option maxRecDepth 100000
set_option maxHeartbeats 2000000
namespace Mine
section
variable {prog : Program} {w : World} {A : Around} {s : Shared} {env : Env} {h₀ : Heap} {m : Str → Option Value} {x : Str} {px : Pos} {body orelse : List Stmt} {I : Addr} {fp wr : List Addr} {n : Nat} {P : Nat → Value → Prop} {St : Nat → Heap → Prop} {Q : Flow → Shared → Prop}

theorem know {h₀ h : Heap} {L : Addr} {m : Str → Option Value} {y : Str} {v : Value} (F : Fr h₀ L h m) (e : m y = some v) : Fr h₀ L h (fun z => if z = y then some v else m z) := by
  have q : (fun z => if z = y then some v else m z) = m := by
    funext z
    by_cases c : z = y
    · rw [if_pos c, c, e]
    · rw [if_neg c]
  rw [q]
  exact F
theorem some_int {m : Str → Option Value} {y : Str} {a b : Int} {t : Tok} (e : m y = some (.int a t)) (h : a = b) : ∃ t, m y = some (.int b t) := ⟨t, h ▸ e⟩
abbrev AllOf (h₀ : Heap) (L : Addr) (h : Heap) (all : List (Addr × Obj)) : Prop := ∀ b o, h.get? b = some o → b ≠ L → h₀.get? b = none → (b, o) ∈ all

theorem for_name (W : Walks prog w A I fp wr n P St) (hLf : env.locals ∉ fp) (hwr : ∀ b ∈ wr, h₀.get? b = none) (hst : St 0 s.heap) (F : Fr h₀ env.locals s.heap m)
    (hx : env.kindOf x = some .local) (hp : (env.scope.kind == .class || (env.scope.kind == .module && env.locals != env.globals)) = false)
    (J : Nat → (Str → Option Value) → Heap → Prop) (hJ : ∀ i m h h', J i m h → But (env.locals :: wr) h h' → J i m h') (h0 : J 0 m s.heap)
    (step : ∀ i v m₁ h₁ tk₁ all, i < n → P i v → J i m₁ h₁ → Fr h₀ env.locals h₁ (fun y => if y = x then some v else m₁ y) → News h₀ env.locals h₁ all → AllOf h₀ env.locals h₁ all → But (env.locals :: wr) s.heap h₁ → St (i + 1) h₁ →
      wpAny (model prog w) A (execs body env) (Turn h₀ env.locals s all (J (i + 1)) Q) (fun _ _ => False) { s with heap := h₁, toks := tk₁ })
    (done : ∀ h' tk m', Fr h₀ env.locals h' m' → But (env.locals :: wr) s.heap h' → J n m' h' → wpAny (model prog w) A (execs orelse env) Q (fun _ _ => False) { s with heap := h', toks := tk }) :
    codeAny (model prog w) A (.forLoop (.Name x px) (.ref I) body orelse env) (fun r s' => match r with | .ok f => Q f s' | .error _ => False) s := by
  refine for_loop (KTurns.ofWalks W fun i v s Q E _ q => wpAny_of_eq (a := ()) rfl q) hLf hwr hst F J (fun i m h h' j b => hJ i m h h' j (b.mono fun c hc => List.mem_cons_of_mem _ hc)) h0 ?_ done
  intro i v m₁ h₁ tk₁ all hi hP hj F₁ N₁ ha B₁ hst₁
  refine wpAny_assign_Name (wpAny_storeName_local hx F₁.ns (fun h₂ hn₂ hs₂ => ?_) hp)
  have B₂ : But [env.locals] h₁ h₂ := fun b o hb e => hs₂.extBut b o (by simpa using hb) e
  have B₃ : But (env.locals :: wr) h₁ h₂ := B₂.mono fun b hb => by rw [List.mem_singleton.mp hb]; exact List.mem_cons_self
  refine step i v m₁ h₂ _ all hi hP (hJ _ _ _ _ hj B₃) (F₁.set hn₂ hs₂) (N₁.set hs₂) (fun b o e hL h0 => ha b o ?_ hL h0) (B₁.trans B₃) (W.frame _ _ _ hst₁ fun b hb o e => B₂ b o (fun q => hLf (by rw [← List.mem_singleton.mp q]; exact hb)) e)
  rw [← hs₂.2 b hL]; exact e

theorem for_list {l : Addr} {items : Array Value} (hh : A.handled = none) (hl : s.heap.IsList l items) (hlL : l ≠ env.locals) (F : Fr h₀ env.locals s.heap m)
    (hx : env.kindOf x = some .local) (hp : (env.scope.kind == .class || (env.scope.kind == .module && env.locals != env.globals)) = false)
    (J : Nat → (Str → Option Value) → Heap → Prop) (hJ : ∀ i m h h', J i m h → But [env.locals, s.heap.objs.size] h h' → J i m h') (h0 : J 0 m s.heap)
    (step : ∀ i v m₁ h₁ tk₁ all, i < items.size → items[i]? = some v → J i m₁ h₁ → Fr h₀ env.locals h₁ (fun y => if y = x then some v else m₁ y) → News h₀ env.locals h₁ all → AllOf h₀ env.locals h₁ all → But [env.locals, s.heap.objs.size] s.heap h₁ →
      wpAny (model prog w) A (execs body env) (Turn h₀ env.locals s all (J (i + 1)) Q) (fun _ _ => False) { s with heap := h₁, toks := tk₁ })
    (done : ∀ h' tk m', Fr h₀ env.locals h' m' → But [env.locals, s.heap.objs.size] s.heap h' → J items.size m' h' → wpAny (model prog w) A (execs orelse env) Q (fun _ _ => False) { s with heap := h', toks := tk }) :
    wpAny (model prog w) A (pyIter (.ref l)) (fun it s₂ => codeAny (model prog w) A (.forLoop (.Name x px) it body orelse env) (fun r s' => match r with | .ok f => Q f s' | .error _ => False) s₂) (fun _ _ => False) s := by
  have hlt : l < s.heap.objs.size := by obtain ⟨_, e, _⟩ := hl; exact Heap.lt_size e
  have up : ∀ b o, s.heap.get? b = some o → (s.heap.push { cls := .type "list_iterator", data := .fields #[.ref l, .int 0 0] }).get? b = some o := fun b o e => Heap.get?_push_of_some _ e
  refine wpAny_pyIter_list hl ?_
  refine for_name (h₀ := h₀) (m := m) (Walks.list hh s.heap.objs.size l (Nat.ne_of_lt hlt) items) ?_ ?_ ⟨⟨_, Heap.get?_push_size _ rfl, rfl, rfl⟩, hl.push _⟩ (F.push _) hx hp J hJ (hJ _ _ _ _ h0 fun b o _ e => up b o e) ?_ ?_
  · intro hm
    rcases List.mem_cons.mp hm with e | hm
    · exact absurd F.ns.lt (e ▸ Nat.lt_irrefl _)
    · exact hlL (List.mem_singleton.mp hm).symm
  · intro b hb
    rw [List.mem_singleton.mp hb]
    exact next_is_new F
  · intro i v m₁ h₁ tk₁ all hi hP hj F₁ N₁ ha B₁ _
    exact step i v m₁ h₁ tk₁ all hi hP hj F₁ N₁ ha fun b o hb e => B₁ b o hb (up b o e)
  · intro h' tk m' F' B' hj
    exact done h' tk m' F' (fun b o hb e => B' b o hb (up b o e)) hj

theorem for_range {r : Addr} {b : Int} {t u v : Tok} (hh : A.handled = none) (hr : IsRange s.heap r 0 b 1 t u v) (hsm : Builtin.Range.small 0 b 1 = true) (hn : Builtin.Range.rangeSize 0 b 1 = ((n : Nat) : Int)) (F : Fr h₀ env.locals s.heap m)
    (hx : env.kindOf x = some .local) (hp : (env.scope.kind == .class || (env.scope.kind == .module && env.locals != env.globals)) = false)
    (J : Nat → (Str → Option Value) → Heap → Prop) (hJ : ∀ i m h h', J i m h → But [env.locals, s.heap.objs.size] h h' → J i m h') (h0 : J 0 m s.heap)
    (step : ∀ i v m₁ h₁ tk₁ all, i < n → (∃ t, v = .int (i : Int) t) → J i m₁ h₁ → Fr h₀ env.locals h₁ (fun y => if y = x then some v else m₁ y) → News h₀ env.locals h₁ all → AllOf h₀ env.locals h₁ all → But [env.locals, s.heap.objs.size] s.heap h₁ →
      (∃ o, h₁.get? s.heap.objs.size = some o) →
      wpAny (model prog w) A (execs body env) (Turn h₀ env.locals s all (J (i + 1)) Q) (fun _ _ => False) { s with heap := h₁, toks := tk₁ })
    (done : ∀ h' tk m', Fr h₀ env.locals h' m' → But [env.locals, s.heap.objs.size] s.heap h' → J n m' h' → wpAny (model prog w) A (execs orelse env) Q (fun _ _ => False) { s with heap := h', toks := tk }) :
    wpAny (model prog w) A (pyIter (.ref r)) (fun it s₂ => codeAny (model prog w) A (.forLoop (.Name x px) it body orelse env) (fun r s' => match r with | .ok f => Q f s' | .error _ => False) s₂) (fun _ _ => False) s := by
  have up : ∀ c o, s.heap.get? c = some o → (s.heap.push { cls := .type "range_iterator", data := .fields #[rawInt 0, rawInt (Builtin.Range.rangeSize 0 b 1), rawInt 1] }).get? c = some o := fun b o e => Heap.get?_push_of_some _ e
  refine wpAny_pyIter_range hr hsm ?_
  refine for_name (h₀ := h₀) (m := m) (LCg.range_walks hh 0 n) ?_ ?_ (by show IsRangeIter _ _ _ _ _; rw [hn]; simpa using Heap.get?_push_size _ rfl) (F.push _) hx hp J hJ (hJ _ _ _ _ h0 fun b o _ e => up b o e) ?_ ?_
  · intro hm
    exact absurd F.ns.lt ((List.mem_singleton.mp hm) ▸ Nat.lt_irrefl _)
  · intro b hb
    rw [List.mem_singleton.mp hb]
    exact next_is_new F
  · intro i v m₁ h₁ tk₁ all hi hP hj F₁ N₁ ha B₁ hst
    exact step i v m₁ h₁ tk₁ all hi (by obtain ⟨t, e⟩ := hP; exact ⟨t, by rw [e, Int.zero_add]⟩) hj F₁ N₁ ha (fun b o hb e => B₁ b o hb (up b o e)) ⟨_, hst⟩
  · intro h' tk m' F' B' hj
    exact done h' tk m' F' (fun b o hb e => B' b o hb (up b o e)) hj

/-- for i, j in enumerate(list) -/
theorem for_enum {xi xj : Str} {pi pj pt : Pos} {kk : Nat} {l e it : Addr} {items : Array Value} (hh : A.handled = none) (hl : s.heap.IsList l items) (hlL : l ≠ env.locals) (he : IsEnum s.heap e it 0 .none) (hit : s.heap.IsListIter it l 0) (hei : e ≠ it) (hle : l ≠ e) (hli : l ≠ it)
    (hen : h₀.get? e = none) (hin : h₀.get? it = none) (heL : e ≠ env.locals) (hiL : it ≠ env.locals) (F : Fr h₀ env.locals s.heap m)
    (hxi : env.kindOf xi = some .local) (hxj : env.kindOf xj = some .local) (hp : (env.scope.kind == .class || (env.scope.kind == .module && env.locals != env.globals)) = false)
    (J : Nat → Prop) (h0 : J 0)
    (step : ∀ i v t h₁ tk₁ (m₁ : Str → Option Value) all, i < items.size → items[i]? = some v → J i → (∀ y, y ≠ xi → y ≠ xj → m₁ y = m y) → Fr h₀ env.locals h₁ (fun y => if y = xj then some v else if y = xi then some (.int (i : Int) t) else m₁ y) → News h₀ env.locals h₁ all →
      wpAny (model prog w) A (execs body env) (Turn h₀ env.locals s all (fun m' _ => J (i + 1) ∧ ∀ y, y ≠ xi → y ≠ xj → m' y = m y) Q) (fun _ _ => False) { s with heap := h₁, toks := tk₁ })
    (done : ∀ h' tk m', Fr h₀ env.locals h' m' → J items.size → wpAny (model prog w) A (execs orelse env) Q (fun _ _ => False) { s with heap := h', toks := tk }) :
    wpAny (model prog w) A (pyIter (.ref e)) (fun it s₂ => codeAny (model prog w) A (.forLoop (.Tuple [.Name xi pi, .Name xj pj] kk pt) it body orelse env) (fun r s' => match r with | .ok f => Q f s' | .error _ => False) s₂) (fun _ _ => False) s := by
  refine wpAny_pyIter_enum he ?_
  refine for_loop (h₀ := h₀) (m := m) (KTurns.ofWalksU (WalksT.enumerate hh e it l hei hle hli items).toU) ?_ ?_ ⟨⟨_, he⟩, hit, hl⟩ F (fun i m' _ => J i ∧ ∀ y, y ≠ xi → y ≠ xj → m' y = m y) (fun _ _ _ _ j _ => j) ⟨h0, fun _ _ _ => rfl⟩ ?_ ?_
  · intro q
    rcases List.mem_cons.mp q with q | q
    · exact heL q.symm
    rcases List.mem_cons.mp q with q | q
    · exact hiL q.symm
    · exact hlL (List.mem_singleton.mp q).symm
  · intro b hb
    rcases List.mem_cons.mp hb with rfl | hb
    · exact hen
    · rw [List.mem_singleton.mp hb]; exact hin
  · intro i v m₁ h₁ tk₁ all hi hP hj F₁ N₁ ha _ _
    obtain ⟨T, vals, rfl, ⟨t, y, hy, rfl⟩, hT⟩ := hP
    refine kcp_assign hh hT hxi hxj hp F₁.ns fun h₂ tk₂ hn₂ hs₂ => ?_
    have hL₀ : h₀.get? env.locals = none := Heap.get?_none_of_le F₁.above
    exact step i y t h₂ tk₂ m₁ all hi hy hj.1 hj.2 ⟨hn₂, fun b o e => hs₂ b o (fun q => by rw [q, hL₀] at e; cases e) (F₁.keep b o e), F₁.above⟩ fun p hp => ⟨hs₂ _ _ (N₁ p hp).2.1 (N₁ p hp).1, (N₁ p hp).2⟩
  · intro h' tk m' F' _ hj
    exact done h' tk m' F' hj.1
end
end Mine
end Loop2Part
section IsxPart
open PySem PySem.W PyProof.Rows PySem.Calls
set_option Elab.async false
set_option maxRecDepth 100000
set_option maxHeartbeats 2000000
namespace Mine
theorem Gnd.booked {w : World} {h : Heap} (G : Gnd w h) : NoneBooked h := by
  have e : h.get? 2 = some { cls := Value.none, data := Data.dict #[] } := G.K 2 _ (by rfl)
  refine ⟨fun _ => none, ⟨_, #[], 0, e, rfl, ?_, fun _ => rfl⟩, rfl⟩
  intro x hx
  simp at hx
theorem is_int {M : Model} {A : Around} {E : Value → Shared → Prop} {s : Shared} {p q : Int} {t u : Tok} {Q : Value → Shared → Prop}
    (ht : t ≠ 0) (hu : u ≠ 0) (htu : t = u → p = q) (hb : NoneBooked s.heap) (hq : ∀ b, (b = true → p = q) → Q (.bool b) s) : wpAny M A (compareOp .Is (.int p t) (.int q u)) Q E s := by
  have h0 : (t == 0 || u == 0) = false := by simp [ht, hu]
  show wpAny M A (isSame (.int p t) (.int q u) >>= fun b => pure (.bool b)) Q E s
  refine wpAny_bind ?_
  show wpAny M A (if (p == q && smallInt p) = true then isSame.cachedInt t u else isSame.created (p == q) t u) _ E s
  by_cases c : (p == q && smallInt p) = true
  · rw [if_pos c]
    unfold isSame.cachedInt
    rw [if_neg (by rw [h0]; exact Bool.false_ne_true)]
    have hpq : p = q := by
      have := (Bool.and_eq_true_iff.mp c).1
      simpa using this
    exact wpAny_bind (wpAny_rule (wpAny_pure (wpAny_pure (hq _ fun _ => hpq))))
  · rw [if_neg c]
    unfold isSame.created
    refine wpAny_ite ?_
    split
    · rename_i h; rw [h0] at h; exact absurd h Bool.false_ne_true
    refine wpAny_ite ?_
    split
    · rename_i h
      exact wpAny_pure (wpAny_pure (hq _ fun _ => htu (by simpa using h)))
    refine wpAny_ite ?_
    split
    · exact wpAny_pure (wpAny_pure (hq _ fun q => by cases q))
    · rename_i h
      have hpq : p = q := by simpa using h
      refine wpAny_bind (wpAny_sharingNotTold_none hb ?_)
      first | rw [if_neg Bool.false_ne_true] | simp only [Bool.false_eq_true, if_false]
      refine wpAny_bind (wpAny_sharingNotTold_none hb ?_)
      first | rw [if_neg Bool.false_ne_true] | simp only [Bool.false_eq_true, if_false]
      exact wpAny_bind (wpAny_rule (wpAny_bind (wpAny_askSetting (wpAny_pure (wpAny_pure (hq _ fun _ => hpq))))))

/-- ints with their tokens: none of them nought, no two the same, all below T -/
def tokOf : Value → Tok
  | .int _ t => t
  | _ => 0
structure TokOk (vs : List Value) (ns : List Int) (T : Nat) : Prop where
  are : IntsAre vs ns
  nz : ∀ v ∈ vs, tokOf v ≠ 0
  lt : ∀ v ∈ vs, tokOf v < T
  ne : vs.Pairwise fun a b => tokOf a ≠ tokOf b
end Mine
end IsxPart
section CntPart
open PySem PySem.W PyProof.Rows PySem.Calls
set_option Elab.async false
set_option maxRecDepth 100000
set_option maxHeartbeats 2000000
namespace Mine
theorem fill2 : ∀ w : World, (fun (_ : OpenLaw) (_ : Frag) => True) PySem.Challenge.rw_pg0079_01 (Mine.hd.heap_39 w.params) := by
  w_top off
  k_fill
  intros
  trivial
local macro_rules | `(tactic| walk_at "mine pad") => `(tactic| skip)
local macro_rules | `(tactic| walk_at "mine enter") => `(tactic| (refine' enter_plain (by assumption) (by assumption) ?k6 ?k7 ?k9 ?kB ?c2 ?c3 ?c4 ?c5 ?_; (case k6 => k_is); (case k7 => k_is); (case k9 => exact BindsTo.of_eq rfl); (case kB => exact locs rfl); (case c2 => exact rfl); (case c3 => exact rfl); (case c4 => exact rfl); (case c5 => decide)))
local macro_rules | `(tactic| walk_at "mine steps") => `(tactic| repeat' ((fail_if_success (with_reducible show wpAny _ _ (exec (Stmt.For _ _ _ _ _) _) _ _ _)); first | (k_unfold; (try dsimp only)) | walk1 | (dsimp only; walk1)))
set_option pp.deepTerms false
set_option pp.deepTerms.threshold 5
theorem countOf_spec {w : World} {A : Around} {s : Shared} {l : Addr} {vs : List Value} {ns : List Int} {x : Int} {tx : Tok} {Q : Value → Shared → Prop} (G : Gnd w s.heap) (hr : Room A (0 + 1))
   (hl : s.heap.IsList l vs.toArray) (hi : IntsAre vs ns) (hnz : ∀ v ∈ vs, tokOf v ≠ 0) (htx : tx ≠ 0) (hne : ∀ v ∈ vs, tokOf v ≠ tx)
   (h : ∀ t, Ret s Q (.int (ns.count x : Int) t)) :
   wpAny (model Pg w) A (call (.ref 49) [.ref l, .int x tx]) Q (fun _ _ => False) s := by
  walk_at "mine enter"
  have G₀ := G
  obtain ⟨X, mean, mg, mb, T⟩ := G
  intro L h₁ dp fr gd un F hr'
  have N : News s.heap L h₁ [] := News.nil
  try dsimp only
  walk_at "mine steps"
  refine For_mine ?_
  walk_at "mine steps"
  rename Fr _ _ _ _ => F₁
  have hl' : Heap.IsList _ l vs.toArray := hl.at fun o e => F₁.keep l o e
  have hlL : l ≠ L := by
    obtain ⟨_, e, _⟩ := hl
    exact Nat.ne_of_lt (Nat.lt_of_lt_of_le (Heap.lt_size e) F₁.above)
  refine for_list (h₀ := s.heap) (items := vs.toArray) hr'.hd hl' hlL F₁ (by rfl) (by rfl)
    (fun i m _ => (∃ t, m (Str.ofString "count") = some (.int (((ns.take i).count x : Nat) : Int) t)) ∧ m (Str.ofString "b") = some (.int x tx)) (fun _ _ _ _ j _ => j) ⟨⟨_, by rfl⟩, by rfl⟩ ?_ ?_
  · intro i v m₁ h₂ tk₂ all hi' hv hj F₂ N₂ _ _
    obtain ⟨⟨tc, hc⟩, hb⟩ := hj
    have hlen := hi.length
    have hi2 : i < ns.length := by simpa [hlen] using hi'
    obtain ⟨t, hx⟩ := hi.get i ns[i] (by simp [hi2])
    have hP' : vs[i]? = some v := by simpa using hv
    have hmem : v ∈ vs := List.mem_of_getElem? hP'
    have hv' : v = .int ns[i] t := by rw [hx] at hP'; exact (Option.some.inj hP').symm
    subst hv'
    have t0 : t ≠ 0 := hnz _ hmem
    have tne : t ≠ tx := hne _ hmem
    have hb2 : NoneBooked h₂ := (G₀.keeps F₂.keep).booked
    have htake : (ns.take (i + 1)).count x = (ns.take i).count x + (if ns[i] = x then 1 else 0) := by
      rw [List.take_succ_eq_append_getElem hi2, List.count_append, List.count_singleton]
      simp [beq_iff_eq]
    clear F₁ hl' hv hP' hmem
    replace F₂ := know (know F₂ (y := Str.ofString "b") hb) (y := Str.ofString "count") hc
    walk_at "mine steps"
    refine is_int t0 htx (fun e => absurd e tne) hb2 ?_
    intro bb hbb
    walk_at "mine steps"
    · rename bb = true => hbt
      refine Turn.next (by k_asm) (by k_asm) (fun _ h => h) ⟨some_int (by rfl) ?_, by rfl⟩
      rw [htake, if_pos (hbb hbt)]; rfl
    · rename ns[i] = x => hbt
      refine Turn.next (by k_asm) (by k_asm) (fun _ h => h) ⟨some_int (by rfl) ?_, by rfl⟩
      rw [htake, if_pos hbt]; rfl
    · rename ¬ (ns[i] = x) => hbt
      refine Turn.next (by k_asm) (by k_asm) (fun _ h => h) ⟨some_int (by rfl) ?_, by rfl⟩
      rw [htake, if_neg hbt]; rfl
  · intro h' tk m' F' B' hj
    obtain ⟨⟨tc, hc⟩, hb⟩ := hj
    replace F' := know F' (y := Str.ofString "count") hc
    walk_at "mine steps"
    rw [List.take_of_length_le (by simp [hi.length])]
    exact h _ _ _ (Fr.keep (by assumption))
end Mine
end CntPart
section IdxPart
open PySem PySem.W PyProof.Rows PySem.Calls
set_option Elab.async false
set_option maxRecDepth 100000
set_option maxHeartbeats 2000000
namespace Mine
theorem fill3 : ∀ w : World, (fun (_ : OpenLaw) (_ : Frag) => True) PySem.Challenge.rw_pg0079_01 (Mine.hd.heap_39 w.params) := by
  w_top off
  k_fill
  intros
  trivial
local macro_rules | `(tactic| walk_at "mine enter") => `(tactic| (refine' enter_plain (by assumption) (by assumption) ?k6 ?k7 ?k9 ?kB ?c2 ?c3 ?c4 ?c5 ?_; (case k6 => k_is); (case k7 => k_is); (case k9 => exact BindsTo.of_eq rfl); (case kB => exact locs rfl); (case c2 => exact rfl); (case c3 => exact rfl); (case c4 => exact rfl); (case c5 => decide)))
local macro_rules | `(tactic| walk_at "mine stop") => `(tactic| first
  | (with_reducible show wpAny _ _ (exec (Stmt.For _ _ _ _ _) _) _ _ _)
  | (with_reducible show wpAny _ _ (call (Value.type _) _) _ _ _)
  | (with_reducible show wpAny _ _ (call (Value.ref _) _) _ _ _))
local macro_rules | `(tactic| walk_at "mine steps") => `(tactic| repeat' ((fail_if_success (walk_at "mine stop")); first | (k_unfold; (try dsimp only)) | walk1 | (dsimp only; walk1)))
set_option pp.deepTerms false
set_option pp.deepTerms.threshold 5
theorem idx_first (x : Int) : ∀ (ns : List Int) (i : Nat) (hi : i < ns.length), ns[i] = x → x ∉ ns.take i → ns.idxOf x = i
  | n :: ns, 0, _, e, _ => by simp at e; simp [e]
  | n :: ns, i + 1, hi, e, hn => by
    have h1 : n ≠ x := fun q => hn (by simp [q])
    have ih := idx_first x ns i (by simpa using hi) (by simpa using e) (fun q => hn (by simp [q]))
    rw [List.idxOf_cons]
    have h2 : (n == x) = false := by simpa using h1
    simp [h2]
    exact ih
theorem indexOf_spec {w : World} {A : Around} {s : Shared} {l : Addr} {vs : List Value} {ns : List Int} {T₀ : Nat} {x : Int} {tx : Tok} {Q : Value → Shared → Prop} (G : Gnd w s.heap) (hr : Room A (0 + 1))
   (hl : s.heap.IsList l vs.toArray) (hi : TokOk vs ns T₀) {k : Nat} (hk : vs[k]? = some (.int x tx))
   (h : ∀ t, Ret s Q (.int (ns.idxOf x : Int) t)) :
   wpAny (model Pg w) A (call (.ref 56) [.ref l, .int x tx]) Q (fun _ _ => False) s := by
  walk_at "mine enter"
  have G₀ := G
  obtain ⟨X, mean, mg, mb, T⟩ := G
  intro L h₁ dp fr gd un F hr'
  have N : News s.heap L h₁ [] := News.nil
  try dsimp only
  walk_at "mine steps"
  refine For_mine ?_
  walk_at "mine steps"
  rename Fr _ _ _ _ => F₁
  have hl' : Heap.IsList _ l vs.toArray := hl.at fun o e => F₁.keep l o e
  have hlt : l < s.heap.objs.size := by
    obtain ⟨_, e, _⟩ := hl
    exact Heap.lt_size e
  have hlL : l ≠ L := Nat.ne_of_lt (Nat.lt_of_lt_of_le hlt F₁.above)
  refine call_enumerate_list hl' ?_
  intro h₂ he hit hsz hk₂
  dsimp only at he hit hsz hk₂ ⊢
  have hLlt : L < h₁.objs.size := F₁.ns.lt
  have hlt₁ : l < h₁.objs.size := Nat.lt_of_lt_of_le hlt (Nat.le_of_lt (Nat.lt_of_le_of_lt F₁.above hLlt))
  have hLn := ltN hLlt
  have hln := ltN hlt₁
  have fresh : ∀ b, h₁.objs.size ≤ b → s.heap.get? b = none := fun b hb => Heap.get?_none_of_le (Nat.le_trans (Nat.le_of_lt (Nat.lt_of_le_of_lt F₁.above hLlt)) hb)
  refine for_enum (h₀ := s.heap) (items := vs.toArray) (l := l) (e := h₁.objs.size + 1) (it := h₁.objs.size) hr'.hd (hl'.at fun o e => hk₂ l o e) hlL he hit (by refine neN ?_; omega) (by refine neN ?_; omega) (by refine neN ?_; omega)
    (fresh _ (by omega)) (fresh _ (by omega)) (by refine neN (b := L) ?_; omega) (by refine neN (b := L) ?_; omega) (F₁.keeps hk₂) (by rfl) (by rfl) (by rfl)
    (fun i => x ∉ ns.take i) (by simp) ?_ ?_
  · intro i v t h₃ tk₃ m₃ all hi' hv hj hm F₃ N₃
    have hlen := hi.are.length
    have hi2 : i < ns.length := by simpa [hlen] using hi'
    obtain ⟨u, hx⟩ := hi.are.get i ns[i] (by simp [hi2])
    have hP' : vs[i]? = some v := by simpa using hv
    have hmem : v ∈ vs := List.mem_of_getElem? hP'
    have hv' : v = .int ns[i] u := by rw [hx] at hP'; exact (Option.some.inj hP').symm
    subst hv'
    have u0 : u ≠ 0 := hi.nz _ hmem
    have tx0 : tx ≠ 0 := hi.nz _ (List.mem_of_getElem? hk)
    have une : u = tx → ns[i] = x := by
      intro e
      by_cases c : i = k
      · subst c
        rw [hx] at hk
        cases hk
        rfl
      · exfalso
        have hkl : k < vs.length := (List.getElem?_eq_some_iff.mp hk).1
        have hil : i < vs.length := by omega
        have e1 : vs[i] = .int ns[i] u := (List.getElem?_eq_some_iff.mp hx).2
        have e2 : vs[k] = .int x tx := (List.getElem?_eq_some_iff.mp hk).2
        have pw := List.pairwise_iff_getElem.mp hi.ne
        rcases Nat.lt_or_gt_of_ne c with q | q
        · have := pw i k hil hkl q
          rw [e1, e2] at this
          exact this e
        · have := pw k i hkl hil q
          rw [e1, e2] at this
          exact this e.symm
    have hb2 : NoneBooked h₃ := (G₀.keeps F₃.keep).booked
    have hbm : m₃ (Str.ofString "b") = some (.int x tx) := (hm _ (by decide) (by decide)).trans (by rfl)
    clear F₁ hl' hv hP' hmem
    replace F₃ := know F₃ (y := Str.ofString "b") hbm
    walk_at "mine steps"
    refine is_int u0 tx0 une hb2 ?_
    intro bb hbb
    have hix : ns[i] = x → ∀ t, Ret s Q (.int (i : Int) t) := by
      intro e t
      have q : ns.idxOf x = i := idx_first x ns i hi2 e hj
      rw [← q]
      exact h t
    walk_at "mine steps"
    · rename bb = true => hbt
      exact hix (hbb hbt) _ _ _ (Fr.keep (by assumption))
    · rename ns[i] = x => hbt
      exact hix hbt _ _ _ (Fr.keep (by assumption))
    · rename ¬ (ns[i] = x) => hbt
      refine Turn.next (by k_asm) (by k_asm) (fun _ h => h) ⟨?_, fun y h1 h2 => ?_⟩
      · rw [List.take_succ_eq_append_getElem hi2, List.mem_append]
        rintro (q | q)
        · exact hj q
        · exact hbt (List.mem_singleton.mp q).symm
      · by_cases c : y = Str.ofString "b"
        · rw [if_pos c, c]; rfl
        · rw [if_neg c, if_neg h2, if_neg h1]
          exact hm y h1 h2
  · intro h' tk m' F' hj
    exfalso
    refine hj ?_
    rw [List.take_of_length_le (by simp [hi.are.length])]
    obtain ⟨n, t, e, hn⟩ := hi.are.at k _ hk
    cases e
    exact List.mem_of_getElem? hn
end Mine
end IdxPart
section Pure1Part
open PySem PySem.W PyProof.Rows
set_option Elab.async false
set_option maxRecDepth 100000
namespace Mine
/-- a word's pattern, as signs' numbers -/
def pat : List Nat → List Nat
  | [] => [46, 46, 46]
  | c :: r => 46 :: 46 :: 46 :: c :: pat r
theorem pat_length : ∀ u : List Nat, (pat u).length = 4 * u.length + 3
  | [] => rfl
  | c :: r => by simp only [pat, List.length_cons, pat_length r]; omega
theorem pat_head : ∀ u : List Nat, ∃ t, pat u = 46 :: 46 :: 46 :: t
  | [] => ⟨_, rfl⟩
  | _ :: _ => ⟨_, rfl⟩
theorem pat_dots : ∀ (u : List Nat), (∀ c ∈ u, c ≠ 46) → ∀ k, ((pat u).drop k).take 3 = [46, 46, 46] ↔ (k % 4 = 0 ∧ k ≤ 4 * u.length)
  | [], _, k => by
    match k with
    | 0 => simp [pat]
    | 1 => simp [pat]
    | 2 => simp [pat]
    | k + 3 => simp [pat]
  | c :: r, hc, k => by
    have h1 : c ≠ 46 := hc c (by simp)
    have ih := pat_dots r (fun x hx => hc x (by simp [hx]))
    obtain ⟨t, ht⟩ := pat_head r
    match k with
    | 0 => simp [pat]
    | 1 => simp [pat, h1]
    | 2 => simp [pat, h1]
    | 3 => simp [pat, h1]
    | k + 4 =>
      have e : (pat (c :: r)).drop (k + 4) = (pat r).drop k := by simp [pat]
      rw [e, ih k, List.length_cons]
      omega
theorem pat_sign : ∀ (u : List Nat) (j : Nat) (hj : j < u.length), ((pat u).drop (4 * j + 3)).take 1 = [u[j]]
  | c :: r, 0, _ => by simp [pat]
  | c :: r, j + 1, hj => by
    have e : (pat (c :: r)).drop (4 * (j + 1) + 3) = (pat r).drop (4 * j + 3) := by
      have : 4 * (j + 1) + 3 = (4 * j + 3) + 4 := by omega
      rw [this]
      simp [pat]
    rw [e, pat_sign r j (by simpa using hj)]
    simp

section
open PySem.StrLaws PySem.Builtin PySem.Builtin.Str
theorem str_ext {a b : Str} (h : a.cps.toList = b.cps.toList) : a = b := by
  obtain ⟨⟨x⟩⟩ := a
  obtain ⟨⟨y⟩⟩ := b
  have : x = y := h
  rw [this]
theorem dots_eq : Str.ofString "..." = ⟨#[46, 46, 46]⟩ := by decide +kernel
theorem at_dots {x : Str} {u : List Nat} (hx : x.cps.toList = pat u) (hu : ∀ c ∈ u, c ≠ 46) (k : Nat) : At x (Str.ofString "...") x.length k ↔ (k % 4 = 0 ∧ k ≤ 4 * u.length) := by
  have hl : x.length = 4 * u.length + 3 := by
    have : x.length = x.cps.toList.length := by simp [Str.length]
    rw [this, hx, pat_length]
  unfold At
  rw [subAt_eq, dots_eq, hx]
  have e3 : (⟨#[46, 46, 46]⟩ : Str).length = 3 := rfl
  have e4 : (⟨#[46, 46, 46]⟩ : Str).cps.toList = [46, 46, 46] := rfl
  rw [e3, e4, beq_iff_eq, pat_dots u hu, hl]
  omega
theorem chain_all {x y : Str} {hi n : Nat} (hy : y.length = 3) (ha : ∀ k, At x y hi k ↔ (k % 4 = 0 ∧ k ≤ 4 * n)) : ∀ (cuts : List Nat) (i a f : Nat), a ≤ 4 * i → 4 * i ≤ a + 1 → ChainG x y hi a cuts f → (∀ k, f ≤ k → ¬ At x y hi k) → i ≤ n + 1 → cuts = (List.range' i (n + 1 - i)).map (4 * ·)
  | [], i, a, f, h1, h2, hc, hf, hi' => by
    have e : f = a := hc
    subst e
    by_cases c : i ≤ n
    · exact absurd ((ha (4 * i)).mpr ⟨by omega, by omega⟩) (hf (4 * i) h1)
    · have : n + 1 - i = 0 := by omega
      rw [this]
      rfl
  | c :: r, i, a, f, h1, h2, hc, hf, hi' => by
    obtain ⟨q1, q2, q3, q4⟩ := hc
    have qa := (ha c).mp q2
    by_cases d : i ≤ n
    · have hci : c = 4 * i := by
        by_cases e : 4 * i < c
        · exact absurd ((ha (4 * i)).mpr ⟨by omega, by omega⟩) (q3 (4 * i) h1 e)
        · omega
      subst hci
      rw [hy] at q4
      have ih := chain_all hy ha r (i + 1) (4 * i + 3) f (by omega) (by omega) q4 hf (by omega)
      have e1 : n + 1 - i = (n + 1 - (i + 1)) + 1 := by omega
      rw [e1, List.range'_succ, List.map_cons, ← ih]
    · omega
theorem occ_all {x : Str} {u : List Nat} (hx : x.cps.toList = pat u) (hu : ∀ c ∈ u, c ≠ 46) : occurrences x (Str.ofString "...") 0 x.length (x.length + 1) = (List.range' 0 (u.length + 1)).map (4 * ·) := by
  have hy : (Str.ofString "...").length = 3 := by rw [dots_eq]; rfl
  obtain ⟨f, h1, h2⟩ := occ_tight x (Str.ofString "...") (by rw [hy]; omega)
  exact chain_all hy (at_dots hx hu) _ 0 0 f (by omega) (by omega) h1 h2 (by omega)
theorem occ_some {x : Str} {u : List Nat} (hx : x.cps.toList = pat u) (hu : ∀ c ∈ u, c ≠ 46) : (occurrences x (Str.ofString "...") 0 x.length 1).isEmpty = false := by
  rcases occ_head_from x (Str.ofString "...") 0 1 (Nat.le_refl 1) with ⟨_, hn⟩ | ⟨k, r, h0, _⟩
  · exact absurd ((at_dots hx hu 0).mpr ⟨by omega, by omega⟩) (hn 0 (Nat.le_refl _))
  · rw [h0]; rfl
theorem split_pat {x : Str} {u : List Nat} (hx : x.cps.toList = pat u) (hu : ∀ c ∈ u, c ≠ 46) :
    Txt.split x (Str.ofString "...") = Str.ofString "" :: (u.map (fun c => (⟨#[c]⟩ : Str)) ++ [Str.ofString ""]) := by
  have hl : x.length = 4 * u.length + 3 := by
    have : x.length = x.cps.toList.length := by simp [Str.length]
    rw [this, hx, pat_length]
  have hy : (Str.ofString "...").length = 3 := by rw [dots_eq]; rfl
  have hk : Builtin.Str.strKind (Str.ofString "...") = 1 := by rw [dots_eq]; decide +kernel
  have hkx : 1 ≤ Builtin.Str.strKind x := by unfold Builtin.Str.strKind; split <;> (try split) <;> omega
  unfold Txt.split
  rw [hy, hk, if_neg (by simp; omega), occ_all hx hu, if_neg (by simp)]
  unfold partsBetween
  have e0 : strSub x 0 0 = Str.ofString "" := by
    refine str_ext ?_
    rw [strSub_toList]
    simp
    decide +kernel
  have e1 : strSub x (4 * u.length + 3) x.length = Str.ofString "" := by
    refine str_ext ?_
    rw [strSub_toList, hl]
    simp
    decide +kernel
  have z : List.zip (List.map (fun i => 4 * i + 3) (List.range' 0 u.length)) (List.map (4 * ·) (List.range' 1 u.length)) = (List.range' 0 u.length).map fun i => (4 * i + 3, 4 * i + 4) := by
    refine List.ext_getElem (by simp) fun j h1 h2 => ?_
    simp only [List.getElem_zip, List.getElem_map, List.getElem_range']
    refine Prod.ext rfl ?_
    show 4 * (1 + 1 * j) = 4 * (0 + 1 * j) + 4
    omega
  have e2 : ((List.range' 0 u.length).map fun i => strSub x (4 * i + 3) (4 * i + 4)) = u.map (fun c => (⟨#[c]⟩ : Str)) := by
    refine List.ext_getElem (by simp) fun j h1 h2 => ?_
    have hj : j < u.length := by simpa using h2
    simp only [List.getElem_map, List.getElem_range']
    refine str_ext ?_
    rw [strSub_toList, hx]
    have : 0 + 1 * j = j := by omega
    rw [this]
    have e : 4 * j + 4 - (4 * j + 3) = 1 := by omega
    rw [e, pat_sign u j hj]
  show List.map _ ((0 :: List.map (· + 3) (List.map (4 * ·) (List.range' 0 (u.length + 1)))).zip (List.map (4 * ·) (List.range' 0 (u.length + 1)) ++ [x.length])) = _
  have s1 : List.map (4 * ·) (List.range' 0 (u.length + 1)) = 0 :: List.map (4 * ·) (List.range' 1 u.length) := by rw [List.range'_succ]; rfl
  have s2 : List.map (· + 3) (List.map (4 * ·) (List.range' 0 (u.length + 1))) = List.map (fun i => 4 * i + 3) (List.range' 0 u.length) ++ [4 * u.length + 3] := by
    rw [List.map_map, List.range'_concat, List.map_append]
    simp
  rw [s2, s1, List.cons_append, List.zip_cons_cons, List.zip_append (by simp), z, List.map_cons, List.map_append, List.map_map]
  simp only [List.zip_cons_cons, List.zip_nil_right, List.map_cons, List.map_nil]
  rw [e0, e1]
  congr 2

theorem find_empty (x : Str) (sp : Nat) (h : sp ≤ x.length) : Txt.find3 x (Str.ofString "") (sp : Int) = (sp : Int) := by
  have hf : fromIndex x.length (sp : Int) = sp := by unfold fromIndex; omega
  have he : Str.ofString "" = ⟨#[]⟩ := by decide +kernel
  have all : ∀ k, k ≤ x.length → At x (Str.ofString "") x.length k := by
    intro k hk
    unfold At
    rw [subAt_eq, he]
    exact ⟨by simpa [Str.length] using hk, by simp [Str.length]⟩
  unfold Txt.find3
  rw [hf]
  rcases occ_head_from x (Str.ofString "") sp 1 (Nat.le_refl 1) with ⟨_, hn⟩ | ⟨k, r, h0, hlo, _, hn⟩
  · exact absurd (all sp h) (hn sp (Nat.le_refl _))
  · rw [h0]
    have : k = sp := by
      by_cases c : sp < k
      · exact absurd (all sp h) (hn sp (Nat.le_refl _) c)
      · omega
    rw [this]
theorem isSub_skip (c : Nat) (u : List Nat) : ∀ (pre t : List Nat), c ∉ pre → (c :: u).isSublist (pre ++ t) = (c :: u).isSublist t
  | [], _, _ => rfl
  | a :: pre, t, h => by
    have h1 : c ≠ a := fun q => h (by simp [q])
    have h2 : c ∉ pre := fun q => h (by simp [q])
    rw [List.cons_append, List.isSublist, if_neg (by simpa using h1)]
    exact isSub_skip c u pre t h2
theorem isSub_none (c : Nat) (u : List Nat) : ∀ (l : List Nat), c ∉ l → (c :: u).isSublist l = false
  | [], _ => rfl
  | a :: l, h => by
    have h1 : c ≠ a := fun q => h (by simp [q])
    rw [List.isSublist, if_neg (by simpa using h1)]
    exact isSub_none c u l fun q => h (by simp [q])

def ellGo (got : Str) : List Str → Int → Bool
  | [], _ => true
  | w :: r, sp => if Txt.find3 got w sp < 0 then false else ellGo got r (Txt.find3 got w sp + w.length)
theorem ell_sub (got : Str) : ∀ (u : List Nat) (sp : Nat), sp ≤ got.length → ellGo got (u.map (fun c => (⟨#[c]⟩ : Str)) ++ [Str.ofString ""]) (sp : Int) = u.isSublist (got.cps.toList.drop sp)
  | [], sp, h => by
    show ellGo got [Str.ofString ""] (sp : Int) = _
    rw [ellGo, find_empty got sp h, if_neg (by omega), ellGo]
    cases got.cps.toList.drop sp <;> rfl
  | c :: u, sp, h => by
    rw [List.map_cons, List.cons_append, ellGo]
    have hf : fromIndex got.length (sp : Int) = sp := by unfold fromIndex; omega
    have hlen : got.length = got.cps.toList.length := by simp [Str.length]
    rcases find3_spec got c (sp : Int) with ⟨e, hn⟩ | ⟨k, e, hlo, hlt, hk, hn⟩
    · rw [e, if_pos (by omega), isSub_none c u]
      intro hm
      obtain ⟨j, hj, hv⟩ := List.mem_iff_getElem.mp hm
      have hj' : sp + j < got.length := by rw [List.length_drop] at hj; omega
      refine hn (sp + j) (by rw [hf]; omega) hj' (getD_of_getElem? ?_)
      rw [List.getElem_drop] at hv
      rw [← hv]
      exact List.getElem?_eq_getElem _
    · rw [hf] at hlo hn
      have e1 : (⟨#[c]⟩ : Str).length = 1 := rfl
      rw [e, if_neg (by omega), e1]
      have ih := ell_sub got u (k + 1) (by omega)
      have ec : ((k : Int) + ((1 : Nat) : Int)) = ((k + 1 : Nat) : Int) := by omega
      rw [ec, ih]
      have hkl : k < got.cps.toList.length := by omega
      have hck : got.cps.toList[k] = c := by
        have := getElem?_of_getD hlt hk
        rw [List.getElem?_eq_getElem hkl] at this
        exact Option.some.inj this
      have sp2 : got.cps.toList.drop sp = (got.cps.toList.drop sp).take (k - sp) ++ c :: got.cps.toList.drop (k + 1) := by
        have h1 : (got.cps.toList.drop sp).drop (k - sp) = c :: got.cps.toList.drop (k + 1) := by
          rw [List.drop_drop]
          have : sp + (k - sp) = k := by omega
          rw [this, List.drop_eq_getElem_cons hkl, hck]
        conv => lhs; rw [← List.take_append_drop (k - sp) (got.cps.toList.drop sp), h1]
      rw [sp2, isSub_skip c u]
      · rw [List.isSublist, if_pos (by simp)]
      · intro hm
        obtain ⟨j, hj, hv⟩ := List.mem_iff_getElem.mp hm
        have hj' : j < k - sp := by rw [List.length_take] at hj; omega
        rw [List.getElem_take, List.getElem_drop] at hv
        refine hn (sp + j) (by omega) (by omega) (getD_of_getElem? ?_)
        rw [← hv]
        exact List.getElem?_eq_getElem _
theorem ell_all (got : Str) (u : List Nat) : ellGo got (Str.ofString "" :: (u.map (fun c => (⟨#[c]⟩ : Str)) ++ [Str.ofString ""])) 0 = u.isSublist got.cps.toList := by
  have h0 := find_empty got 0 (Nat.zero_le _)
  have hl : (Str.ofString "").length = 0 := by decide +kernel
  have h0' : Txt.find3 got (Str.ofString "") 0 = 0 := h0
  rw [ellGo, h0', if_neg (by omega), hl]
  have := ell_sub got u 0 (Nat.zero_le _)
  simpa using this

/-- the pattern as it is glued -/
theorem glue_fold : ∀ (l : List Nat) (acc : Array Nat), ((l.map (fun n => (⟨#[n]⟩ : Str))).foldl (fun acc p => acc ++ (⟨#[46, 46, 46]⟩ : Str).cps ++ p.cps) acc).toList = acc.toList ++ l.flatMap (fun c => [46, 46, 46, c])
  | [], acc => by simp
  | c :: l, acc => by
    rw [List.map_cons, List.foldl_cons, glue_fold l]
    simp
theorem pat_flat : ∀ (c : Nat) (r : List Nat), [46, 46, 46] ++ (c :: r.flatMap (fun c => [46, 46, 46, c])) ++ [46, 46, 46] = pat (c :: r)
  | c, [] => rfl
  | c, d :: r => by
    have ih := pat_flat d r
    simp only [pat] at ih ⊢
    simp only [List.flatMap_cons, List.cons_append, List.nil_append] at ih ⊢
    rw [← ih]
theorem join_toList (u : Str) : (Txt.join (Str.ofString "...") (signs u)).cps.toList = match u.cps.toList with | [] => [] | c :: r => c :: r.flatMap (fun c => [46, 46, 46, c]) := by
  unfold Txt.join glued signs
  rw [dots_eq]
  cases h : u.cps.toList with
  | nil => rfl
  | cons c r =>
    simp only [List.map_cons, List.drop_succ_cons, List.drop_zero, List.headD_cons]
    rw [glue_fold]
    rfl
theorem want_pat {u : Str} (hu : u.cps.toList ≠ []) : (Str.ofString "..." ++ Txt.join (Str.ofString "...") (signs u) ++ Str.ofString "...").cps.toList = pat u.cps.toList := by
  have e : ∀ a b : Str, (a ++ b).cps.toList = a.cps.toList ++ b.cps.toList := fun a b => by
    show (a.cps ++ b.cps).toList = _
    simp
  rw [e, e, join_toList, dots_eq]
  cases h : u.cps.toList with
  | nil => exact absurd h hu
  | cons c r => exact pat_flat c r
theorem join_length (u : Str) : (Txt.join (Str.ofString "...") (signs u)).length ≤ 4 * u.length := by
  have h : (Txt.join (Str.ofString "...") (signs u)).length = (Txt.join (Str.ofString "...") (signs u)).cps.toList.length := by simp [Str.length]
  have h2 : u.length = u.cps.toList.length := by simp [Str.length]
  rw [h, h2, join_toList]
  cases u.cps.toList with
  | nil => simp
  | cons c r =>
    simp only [List.length_cons]
    have : ∀ l : List Nat, (l.flatMap (fun c => [46, 46, 46, c])).length = 4 * l.length := by
      intro l
      induction l with
      | nil => rfl
      | cons a l ih => rw [List.flatMap_cons, List.length_append, ih]; simp; omega
    rw [this]
    omega
end
end Mine
end Pure1Part
section EllPart
open PySem PySem.W PyProof.Rows PySem.Calls
set_option Elab.async false
set_option maxRecDepth 100000
set_option maxHeartbeats 2000000
namespace Mine
theorem fill4 : ∀ w : World, (fun (_ : OpenLaw) (_ : Frag) => True) PySem.Challenge.rw_pg0079_01 (Mine.hd.heap_39 w.params) := by
  w_top off
  k_fill
  intros
  trivial
local macro_rules | `(tactic| walk_at "mine enter") => `(tactic| (refine' enter_plain (by assumption) (by assumption) ?k6 ?k7 ?k9 ?kB ?c2 ?c3 ?c4 ?c5 ?_; (case k6 => k_is); (case k7 => k_is); (case k9 => exact BindsTo.of_eq rfl); (case kB => exact locs rfl); (case c2 => exact rfl); (case c3 => exact rfl); (case c4 => exact rfl); (case c5 => decide)))
local macro_rules | `(tactic| walk_at "mine stop") => `(tactic| first
  | (with_reducible show wpAny _ _ (exec (Stmt.For _ _ _ _ _) _) _ _ _)
  | (with_reducible show wpAny _ _ (exec (Stmt.Assert _ _ _) _) _ _ _)
  | (with_reducible show wpAny _ _ (call (Value.type _) _) _ _ _)
  | (with_reducible show wpAny _ _ (call (Value.ref _) _) _ _ _))
local macro_rules | `(tactic| walk_at "mine steps") => `(tactic| repeat' ((fail_if_success (walk_at "mine stop")); first | (k_unfold; (try dsimp only)) | walk1 | (dsimp only; walk1)))
section
open PySem.Builtin PySem.Builtin.Str
theorem gives_find4 (x y : Str) (i j : Int) (t u v v' : Tok) : Gives («str.find» ⟨[.str x t, .str y u, .int i v, .int j v'], []⟩) (.int (match occurrences x y (fromIndex x.length i) (min (fromIndex x.length j) x.length) 1 with | k :: _ => (k : Int) | [] => -1)) := by
  show Gives (match occurrences x y (fromIndex x.length i) (min (fromIndex x.length j) x.length) 1 with | k :: _ => retInt k | [] => (do rule "str.find.not-found"; retInt (-1))) _
  cases occurrences x y (fromIndex x.length i) (min (fromIndex x.length j) x.length) 1 with
  | nil => exact .rule (.of_eq rfl)
  | cons k _ => exact .of_eq rfl
theorem find4_end {prog : Program} {w : World} {A : Around} {E : Value → Shared → Prop} {s : Shared} {x y : Str} {t u v v' : Tok} {i : Int} {Q : Value → Shared → Prop}
    (hq : Q (.int (Txt.find3 x y i) s.toks) { s with toks := s.toks + 1 }) : wpAny (model prog w) A (call (.builtin "str.find") [.str x t, .str y u, .int i v, .int ((x.length : Nat) : Int) v']) Q E s := by
  refine call_gives F.slot_str_find (typeIs_str _ _ _) F.entry_str_find (F.args_str_find_4 _ _ _ _) (gives_find4 x y i _ t u v v') ?_
  have e : min (fromIndex x.length ((x.length : Nat) : Int)) x.length = x.length := by
    have : fromIndex x.length ((x.length : Nat) : Int) = x.length := by unfold fromIndex; omega
    rw [this, Nat.min_self]
  rw [e]
  exact hq
end
local macro_rules | `(tactic| walk_at "call builtin:str.find") => `(tactic| (with_reducible refine find4_end ?_))
set_option pp.deepTerms false
set_option pp.deepTerms.threshold 6
theorem ellipsis_spec {w : World} {A : Around} {s : Shared} {want got : Str} {tw tg : Tok} {Q : Value → Shared → Prop} (G : Gnd w s.heap) (hr : Room A (0 + 1))
   (hgl : got.length ≤ 1000) (hwl : want.length ≤ 1000) {ps : List Str}
   (hin : (Builtin.Str.occurrences want (Str.ofString "...") 0 want.length 1).isEmpty = false)
   (hsp : Txt.split want (Str.ofString "...") = Str.ofString "" :: (ps ++ [Str.ofString ""]))
   {R : Bool} (hR : ellGo got (Str.ofString "" :: (ps ++ [Str.ofString ""])) 0 = R)
   (h : Ret s Q (.bool R)) :
   wpAny (model Pg w) A (call (.ref 63) [.str want tw, .str got tg]) Q (fun _ _ => False) s := by
  walk_at "mine enter"
  have G₀ := G
  obtain ⟨X, mean, mg, mb, T⟩ := G
  intro L h₁ dp fr gd un F hr'
  have N : News s.heap L h₁ [] := News.nil
  try dsimp only
  walk_at "mine steps"
  rename_i tk₁ l h₂ k₂ hlk hstr hle hil h₃ F₃ N₃
  dsimp only at hil N₃ F₃
  have hl : l.map (fun x => x.1) = Str.ofString "" :: (ps ++ [Str.ofString ""]) := hlk.trans hsp
  have hlen : l.length = ps.length + 2 := by
    have := congrArg List.length hl
    simpa using this
  have hlen2 : (2 : Int) ≤ (l.length : Int) := by omega
  refine wpAny_Assert_new rfl ?_
  walk_at "mine steps"
  rename_i y ty hy h₄ F₄ N₄
  have hy' : y = Str.ofString "" := by
    rw [hlk, hsp] at hy
    simpa using hy.symm
  subst hy'
  clear hy
  walk_at "mine steps"
  rename Fr _ _ _ _ => F₅
  generalize hz : List.getD (List.map (fun x => x.fst) l) _ Str.empty = z at F₅ ⊢
  have hz' : z = Str.ofString "" := by
    rw [← hz, hlk, hsp]
    have e : ∀ (k : Int), k = (l.length : Int) → (Str.ofString "" :: (ps ++ [Str.ofString ""])).getD (-1 + k).toNat Str.empty = Str.ofString "" := by
      intro k hk
      have e2 : (-1 + k).toNat = ps.length + 1 := by omega
      rw [e2]
      simp
    refine e _ ?_
    rw [hlen]
    simp
    omega
  subst hz'
  clear hz
  walk_at "mine steps"
  rename Fr _ _ _ _ => F₆
  rename News _ _ _ _ => N₆
  have hli : Heap.IsList _ h₁.objs.size (strValues l).toArray := ⟨_, (N₆ (h₁.objs.size, _) (by k_mem)).1, rfl, _, rfl⟩
  have hlL : h₁.objs.size ≠ L := (N₆ (h₁.objs.size, _) (by k_mem)).2.1
  refine For_mine ?_
  walk_at "mine steps"
  refine for_list (h₀ := s.heap) (items := (strValues l).toArray) rfl hli hlL F₆ (by rfl) (by rfl)
    (fun i m _ => (∃ sp t te, m (Str.ofString "startpos") = some (.int sp t) ∧ m (Str.ofString "endpos") = some (.int ((got.length : Nat) : Int) te) ∧ m (Str.ofString "got") = some (.str got tg) ∧
      R = ellGo got ((l.map (fun x => x.1)).drop i) sp)) (fun _ _ _ _ j _ => j) ⟨0, _, _, by rfl, by rfl, by rfl, by rw [hlk, hsp]; exact hR.symm⟩ ?_ ?_
  · intro i v m₁ h₇ tk₇ all hi' hv hj F₇ N₇ _ _
    obtain ⟨sp, t, te, e1, e2, e3, e4⟩ := hj
    clear F₆ N₆ hli
    have hi2 : i < l.length := by simpa [strValues] using hi'
    have hv' : v = .str l[i].1 l[i].2 := by
      have e : (strValues l)[i]? = some v := by simpa using hv
      unfold strValues at e
      rw [List.getElem?_map, List.getElem?_eq_getElem hi2] at e
      exact (Option.some.inj e).symm
    subst hv'
    have hwi : l[i].1.length ≤ 1000 := Nat.le_trans (hle _ (List.mem_map.mpr ⟨l[i], List.getElem_mem hi2, rfl⟩)) hwl
    have hdrop : (l.map (fun x => x.1)).drop i = l[i].1 :: (l.map (fun x => x.1)).drop (i + 1) := by
      rw [List.drop_eq_getElem_cons (by simpa using hi2)]
      simp
    rw [hdrop, ellGo] at e4
    clear hv
    replace F₇ := know (know (know F₇ (y := Str.ofString "startpos") e1) (y := Str.ofString "endpos") e2) (y := Str.ofString "got") e3
    generalize l[i] = wi at *
    walk_at "mine steps"
    · rename Txt.find3 _ _ _ < 0 => hlt
      rw [if_pos hlt] at e4
      rw [e4] at h
      exact h _ _ (Fr.keep (by assumption))
    · rename ¬ (Txt.find3 _ _ _ < 0) => hlt
      rw [if_neg hlt] at e4
      exact Turn.next (by k_asm) (by k_asm) (fun _ h => h) ⟨_, _, _, by rfl, by rfl, by rfl, e4⟩
  · intro h' tk m' F' B' hj
    obtain ⟨sp, t, te, e1, e2, e3, e4⟩ := hj
    walk_at "mine steps"
    rw [List.drop_of_length_le (by simp [strValues]), ellGo] at e4
    rw [e4] at h
    exact h _ _ (Fr.keep (by assumption))
end Mine
end EllPart
section CellsPart
open PySem PySem.W PyProof.Rows PySem.Calls
set_option Elab.async false
set_option maxRecDepth 100000
set_option maxHeartbeats 2000000
namespace Mine
theorem enter_cells {w : World} {A : Around} {s : Shared} {f : Addr} {vs : List Value} {Q : Value → Shared → Prop} {d : Nat}
    {name qual : Str} {params : Arguments} {body : List Stmt} {scope : Scope} {dV kV doc pm cdv ct oc : Value} {an od : Option Addr} {osl : Array (Option Value)} {binds : List (Str × Value)}
    (G : Gnd w s.heap) (hr : Room A (d + 1))
    (ho : (Mine.hd.heap_39 w.params).lookup f = some ⟨oc, od, .func (fnOf name qual params body scope dV kV doc pm an cdv ct), osl⟩)
    (hcd : codeIn (Mine.hd.heap_39 w.params) cdv qual = true)
    (hbind : BindsTo s (fnOf name qual params body scope dV kV doc pm an cdv ct) ⟨vs, []⟩ binds)
    (hkind : (binds.all fun y => scope.names.lookup y.1 == some .local || scope.names.lookup y.1 == some .cell) = true)
    (hnd : ((cellsFrom 0 scope.names []).map (·.1)).Nodup)
    (hco : scope.isCoroutine = false) (hgen : scope.isGenerator = false) (hk : scope.kind = .function)
    (h : ∀ L h₁ tk cells dp fr gd un, Fr s.heap L h₁ (bindL (envOfC qual scope L f cdv).kindOf binds fun _ => none) → News s.heap L h₁ cells →
      CellsAre (bindC (envOfC qual scope L f cdv).kindOf binds fun _ => none) (cellsFrom (L + 1) scope.names []) cells → Room ⟨none, dp, fr, gd, un⟩ d → s.toks ≤ tk →
      wpAny (model Pg w) ⟨none, dp, fr, gd, un⟩ (execs body (envOfC qual scope L f cdv))
        (fun fl s' => Q (match fl with | .ret v => v | _ => .none) s') (fun _ _ => False)
        { s with heap := h₁, toks := tk }) :
    wpAny (model Pg w) A (call (.ref f) vs) Q (fun _ _ => False) s := by
  obtain ⟨X, mean, mg, mb, T⟩ := G
  obtain ⟨hd, dp, fr, gd, un⟩ := A
  have e : hd = none := hr.hd
  subst e
  refine wpAny_call (codeAny_call_function (fd := fnOf name qual params body scope dV kV doc pm an cdv ct) (Nat.lt_of_le_of_lt (Nat.le_add_right _ _) hr.dep) (X _ _ ho) rfl hco hgen rfl (codeRec_of X hcd) (hbind _ _ _ _ ?_))
  refine wpAny_with_toks (n := s.toks) (Nat.le_refl _) (wpAny_newFunctionEnv_cells hk (kindsX hkind _) fun env' he s' x htk => ?_)
  subst he
  refine ⟨T.nolimit.keeps x.toInCall.keep, codeAny_func ?_⟩
  obtain ⟨h₁, tk, rfl, _⟩ := x.done
  have hk₁ := x.toInCall.keep
  obtain ⟨cells, NC, Y⟩ := Cl.news (h₀ := s.heap) (Nat.le_refl _) fun n c hm => ⟨x.cell n c (lookup_of_mem_nodup (cellsFrom_names scope.names 0 (s.heap.objs.size + 1) [] [] rfl ▸ hnd) hm), x.above n c hm⟩
  refine wpAny_mono (h s.heap.objs.size h₁ tk cells _ _ _ _ ⟨x.toInCall.ns, hk₁, Nat.le_refl _⟩ NC Y ⟨rfl, ?_, ?_⟩ htk) (fun _ _ x => x) fun _ _ x => x.elim
  · have := hr.dep
    dsimp only at this ⊢
    omega
  · have := hr.un
    dsimp only at this ⊢
    omega
end Mine
namespace Mine
/-- a statement, with the tokens' line kept in sight -/
theorem execs_toks {M : Model} {A : Around} {E : Value → Shared → Prop} {s : Shared} {env : Env} {n : Nat} {st : Stmt} {rest : List Stmt} {Q : Flow → Shared → Prop} (hn : n ≤ s.toks)
    (h : ∀ tk, n ≤ tk → wpAny M A (exec st env) (fun f s' => n ≤ s'.toks → (match f with | .next => wpAny M A (execs rest env) Q E s' | f => Q f s')) E { s with toks := tk }) :
    wpAny M A (execs (st :: rest) env) Q E s := by
  refine wpAny_execs_cons ?_
  have h' := h s.toks hn
  refine wpAny_mono (wpAny_toks_of hn h') (fun f s' x => ?_) fun _ _ x => x.2
  exact x.2 x.1
end Mine
namespace Mine
/-- the tokens' line lies at or above T -/
structure Above (T tk : Nat) : Prop where
  le : T ≤ tk
theorem execs_above {M : Model} {A : Around} {E : Value → Shared → Prop} {s : Shared} {env : Env} {n : Nat} {st : Stmt} {rest : List Stmt} {Q : Flow → Shared → Prop} (hn : Above n s.toks)
    (h : ∀ tk, Above n tk → wpAny M A (exec st env) (fun f s' => Above n s'.toks → (match f with | .next => wpAny M A (execs rest env) Q E s' | f => Q f s')) E { s with toks := tk }) :
    wpAny M A (execs (st :: rest) env) Q E s := by
  refine wpAny_execs_cons ?_
  have h' := h s.toks hn
  refine wpAny_mono (wpAny_toks_of hn.le h') (fun f s' x => ?_) fun _ _ x => x.2
  exact x.2 ⟨x.1⟩
end Mine
end CellsPart
section CompPart
open PySem PySem.W PyProof.Rows PySem.Calls
set_option Elab.async false
set_option maxRecDepth 100000
set_option maxHeartbeats 2000000
namespace Mine
/-- an iterator, with the tokens' line kept in sight -/
structure Itr (prog : Program) (w : World) (A : Around) (target : Expr) (I : Addr) (fp wr : List Addr) (n : Nat) (P : Nat → Nat → Value → Heap → Prop) (St : Nat → Heap → Prop) : Prop where
  sub : ∀ b ∈ wr, b ∈ fp
  frame : ∀ i h h', St i h → (∀ b ∈ fp, ∀ o, h.get? b = some o → h'.get? b = some o) → St i h'
  item : ∀ i (s : Shared) (Q : Value → Shared → Prop), i < n → St i s.heap →
    (∀ v h' tk, s.toks ≤ tk → P s.toks i v h' → St (i + 1) h' → But wr s.heap h' → Q v { s with heap := h', toks := tk }) →
    wpAny (model prog w) A (pyNext (.ref I)) (fun r s₁ => match r with
      | none => False
      | some v => wpAny (model prog w) A (letOwnedTupleGo target (.ref I) v) (fun _ s₂ => Q v s₂) (fun _ _ => False) s₁) (fun _ _ => False) s
  done : ∀ (s : Shared) (Q : Shared → Prop), St n s.heap → (∀ h' tk, s.toks ≤ tk → But wr s.heap h' → Q { s with heap := h', toks := tk }) →
    wpAny (model prog w) A (pyNext (.ref I)) (fun r s₁ => match r with | none => Q s₁ | some _ => False) (fun _ _ => False) s
  self : ∀ i (s : Shared) (Q : Value → Shared → Prop) (E : Value → Shared → Prop), St i s.heap → Q (.ref I) s → wpAny (model prog w) A (pyIter (.ref I)) Q E s

section
variable {prog : Program} {w : World} {A : Around} {target : Expr} {I : Addr} {fp wr : List Addr} {n : Nat}
theorem Itr.ofTurns {P Md : Nat → Value → Heap → Prop} {St : Nat → Heap → Prop} (W : KTurns prog w A target I fp wr n P Md St) (hself : ∀ i (s : Shared) (Q : Value → Shared → Prop) (E : Value → Shared → Prop), St i s.heap → Q (.ref I) s → wpAny (model prog w) A (pyIter (.ref I)) Q E s) :
    Itr prog w A target I fp wr n (fun _ => P) St where
  sub := W.sub
  frame := W.frame
  item := fun i s Q hi st hQ => by
    refine wpAny_with_toks (n := s.toks) (Nat.le_refl _) (W.item i s _ _ hi st fun v h' tk hm hk htk => ?_)
    refine W.go i v _ _ _ hm fun h'' hP st' hk' => ?_
    exact hQ v h'' tk htk hP st' fun b o hb e => hk' b o hb (hk b o hb e)
  done := fun s Q st hQ => wpAny_with_toks (n := s.toks) (Nat.le_refl _) (W.done s _ _ st fun h' tk hk htk => hQ h' tk htk hk)
  self := hself
theorem Itr.ofWalks {x : Str} {px : Pos} {P : Nat → Value → Prop} {St : Nat → Heap → Prop} (W : Walks prog w A I fp wr n P St) : Itr prog w A (.Name x px) I fp wr n (fun _ i v _ => P i v) St :=
  Itr.ofTurns (KTurns.ofWalks W fun _ _ _ _ _ _ q => wpAny_of_eq (a := ()) rfl q) W.self
theorem Itr.range {x : Str} {px : Pos} (hh : A.handled = none) : Itr prog w A (.Name x px) I [I] [I] n (fun T i v _ => v = .int (i : Int) T) (fun i h => IsRangeIter h I ((i : Nat) : Int) ((n : Int) - (i : Nat)) 1) where
  sub := fun _ h => h
  frame := fun i h h' st hk => hk I (List.mem_singleton.mpr rfl) _ st
  item := fun i s Q hi st hQ => by
    refine wpAny_pyNext_range_item st (by omega) fun h' st' hs' => ?_
    refine wpAny_of_eq (a := ()) rfl (hQ _ h' _ (Nat.le_succ _) rfl ?_ fun b o hb e => hs'.extBut b o (fun q => hb (List.mem_singleton.mpr q)) e)
    have e1 : ((i + 1 : Nat) : Int) = (i : Int) + 1 := by omega
    have e2 : (n : Int) - ((i + 1 : Nat) : Int) = (n : Int) - (i : Nat) - 1 := by omega
    rw [e1] at *
    have e3 : (n : Int) - ((i : Int) + 1) = (n : Int) - (i : Nat) - 1 := by omega
    rw [e3]
    exact st'
  done := fun s Q st hQ => wpAny_with_toks (n := s.toks) (Nat.le_refl _) ((LCg.range_walks (prog := prog) (w := w) (I := I) hh 0 n).done s _ _ (by
      show IsRangeIter _ _ _ _ _
      have e : ((0 : Int) + (n : Nat) * 1) = ((n : Nat) : Int) := by omega
      rw [e]; exact st) fun h' tk hk htk => hQ h' tk htk hk)
  self := fun i s Q E st q => wpAny_pyIter_rangeiter st q
end

section
variable {prog : Program} {w : World} {A : Around} {s : Shared} {target : Expr} {I : Addr} {fp wr : List Addr} {n : Nat} {P : Nat → Nat → Value → Heap → Prop} {St : Nat → Heap → Prop} {elt : Expr} {gens : List Comprehension} {scope : Scope} {pos : Pos} {d : Nat} {acc : Value} {cenv : Env} {p : Pos} {inner : Sem Unit} {R : Result → Shared → Prop}

theorem comp_loop (It : Itr prog w A target I fp wr n P St)
    (heq : compTurn (.ListComp elt gens scope pos) d (.ref I) acc cenv = (standAt p >>= fun _ => pyNext (.ref I) >>= fun r => match r with
      | none => pure (.done .next)
      | some v => letOwnedTupleGo target (.ref I) v >>= fun _ => assign target cenv v >>= fun _ => inner >>= fun _ => again (.compLoop (.ListComp elt gens scope pos) d (.ref I) acc cenv)))
    (Inv : Nat → Heap → Nat → Prop) (hI : ∀ i h T h', Inv i h T → But wr h h' → Inv i h' T) (h0 : Inv 0 s.heap s.toks) (hst : St 0 s.heap)
    (step : ∀ i v h₁ T tk₁, i < n → Inv i h₁ T → P T i v h₁ → T ≤ tk₁ → St (i + 1) h₁ →
      wpAny (model prog w) A (assign target cenv v) (fun _ s₂ => wpAny (model prog w) A inner (fun _ s₃ => ∃ h₃ tk₃, s₃ = { s with heap := h₃, toks := tk₃ } ∧ St (i + 1) h₃ ∧ Inv (i + 1) h₃ tk₃) (fun _ _ => False) s₂) (fun _ _ => False) { s with heap := h₁, toks := tk₁ })
    (done : ∀ h' T tk', Inv n h' T → T ≤ tk' → R (.ok .next) { s with heap := h', toks := tk' }) :
    codeAny (model prog w) A (.compLoop (.ListComp elt gens scope pos) d (.ref I) acc cenv) R s := by
  refine codeAny_loop rfl (fun k s' => ∃ h' tk i, s' = { s with heap := h', toks := tk } ∧ St i h' ∧ Inv i h' tk ∧ i ≤ n ∧ k = n + 1 - i) (fun k s' hk => ?_) (n + 1) ⟨s.heap, s.toks, 0, rfl, hst, h0, Nat.zero_le _, rfl⟩
  obtain ⟨h', tk, i, rfl, st', inv', hi, rfl⟩ := hk
  show wpAny _ A ((compTurn (.ListComp elt gens scope pos) d (.ref I) acc cenv).onRaise (fun x => do noteFrame x cenv; theTreesLotGoes x)) _ _ _
  refine wpAny_noted ?_
  rw [heq]
  refine wpAny_bind (wpAny_standAt (wpAny_bind ?_))
  by_cases hlt : i < n
  · refine never_noted (wpAny_mono (It.item i { s with heap := h', toks := tk } (fun v s₂ => wpAny (model prog w) A (assign target cenv v) (fun _ s₂ => wpAny (model prog w) A inner (fun _ s₃ => ∃ h₃ tk₃, s₃ = { s with heap := h₃, toks := tk₃ } ∧ St (i + 1) h₃ ∧ Inv (i + 1) h₃ tk₃) (fun _ _ => False) s₂) (fun _ _ => False) s₂) hlt st' ?_) (fun r s₁ h₁ => ?_) fun _ _ x => x)
    · intro v h₂ tk₂ htk hP st₂ hB
      exact step i v h₂ tk tk₂ hlt (hI _ _ _ _ inv' hB) hP htk st₂
    · cases r with
      | none => exact h₁.elim
      | some v =>
        refine never_noted (wpAny_bind (wpAny_mono h₁ (fun _ s₂ h₂ => ?_) fun _ _ x => x))
        refine wpAny_bind (wpAny_mono h₂ (fun _ s₃ h₃ => ?_) fun _ _ x => x)
        refine wpAny_bind (wpAny_mono h₃ (fun _ s₄ h₄ => ?_) fun _ _ x => x)
        obtain ⟨h₅, tk₅, rfl, st₅, inv₅⟩ := h₄
        exact wpAny_pure ⟨rfl, n + 1 - (i + 1), by omega, h₅, tk₅, i + 1, rfl, st₅, inv₅, hlt, rfl⟩
  · have hin : i = n := by omega
    subst hin
    refine never_noted (wpAny_mono (It.done { s with heap := h', toks := tk } (fun s₁ => R (.ok .next) s₁) st' ?_) (fun r s₁ h₁ => ?_) fun _ _ x => x)
    · intro h₂ tk₂ htk hB
      exact done h₂ tk tk₂ (hI _ _ _ _ inv' hB) htk
    · cases r with
      | none => exact wpAny_pure h₁
      | some v => exact h₁.elim
end

section
variable {prog : Program} {w : World} {A : Around} {s : Shared} {env : Env} {target : Expr} {elt iter : Expr} {ifs : List Expr} {rest : List Comprehension} {scope : Scope} {cl : List (Str × Addr)} {pos : Pos}

/-- all stays but the frame's object, and that still bears m -/
structure Kp (L : Addr) (m : Str → Option Value) (h h' : Heap) : Prop where
  but : But [L] h h'
  ns : h'.Ns L m
theorem Kp.trans {L : Addr} {m : Str → Option Value} {h h' h'' : Heap} (a : Kp L m h h') (b : Kp L m h' h'') : Kp L m h h'' := ⟨a.but.trans b.but, b.ns⟩
theorem Kp.of {L : Addr} {m : Str → Option Value} {h h' : Heap} (n : h.Ns L m) (k : ∀ b o, h.get? b = some o → h'.get? b = some o) : Kp L m h h' := ⟨fun b o _ e => k b o e, n.at' fun o e => k _ o e⟩
theorem Kp.at {L : Addr} {m : Str → Option Value} {h h' : Heap} (a : Kp L m h h') {b : Addr} {o : Obj} (hb : b ≠ L) (e : h.get? b = some o) : h'.get? b = some o := a.but b o (by simpa using hb) e
theorem Kp.same {L C : Addr} {m : Str → Option Value} {h h' h'' : Heap} (a : Kp L m h h') (hs : Heap.SameBut C h' h'') (hC : h.get? C = none) (hCL : C ≠ L) : Kp L m h h'' :=
  ⟨fun b o hb e => hs.extBut b o (fun q => by rw [q, hC] at e; cases e) (a.but b o hb e), a.ns.sameBut hs (Ne.symm hCL)⟩
theorem Kp.fr {h₀ h h' : Heap} {L : Addr} {m m' : Str → Option Value} (a : Kp L m' h h') (F : Fr h₀ L h m) : Fr h₀ L h' m' :=
  ⟨a.ns, fun b o e => a.at (fun q => by rw [q, Heap.get?_none_of_le F.above] at e; cases e) (F.keep b o e), F.above⟩
theorem Kp.news {h₀ h h' : Heap} {L : Addr} {m : Str → Option Value} {news : List (Addr × Obj)} (a : Kp L m h h') (N : News h₀ L h news) : News h₀ L h' news :=
  fun p hp => ⟨a.at (N p hp).2.1 (N p hp).1, (N p hp).2⟩
theorem kp_all {h₀ h h' : Heap} {L : Addr} {m m' : Str → Option Value} {news' : List (Addr × Obj)} (F : Fr h₀ L h m) (F' : Fr h₀ L h' m') (N' : News h₀ L h' news') (hs : ∀ p ∈ allNews h₀ L h, p ∈ news') : Kp L m' h h' := ⟨but_all F F' N' hs, F'.ns⟩

/-- the block's loop, over an iterator at hand; Fin: what is known of the items made -/
def CompSt (prog : Program) (w : World) (A : Around) (s : Shared) (m : Str → Option Value) (env : Env) (elt : Expr) (gens : List Comprehension) (scope : Scope) (cl : List (Str × Addr)) (pos : Pos) (Fin : List Value → Nat → Prop) (it : Value) (s₂ : Shared) : Prop :=
  ∃ I h₂ tk₂, it = .ref I ∧ s₂ = { s with heap := h₂, toks := tk₂ } ∧ Kp env.locals m s.heap h₂ ∧
    (∀ s' : Shared, (∀ b o, h₂.get? b = some o → s'.heap.get? b = some o) → ∀ (Q : Value → Shared → Prop) (E : Value → Shared → Prop), Q (.ref I) s' → wpAny (model prog w) A (pyIter (.ref I)) Q E s') ∧
    ∀ D C h₁ tk₁, D = h₂.objs.size → C = h₂.objs.size + 1 → (∀ b o, h₂.get? b = some o → h₁.get? b = some o) → h₁.get? D = some (LCg.lst []) → h₁.Ns C (fun _ => none) → tk₂ ≤ tk₁ →
      codeAny (model prog w) A (.compLoop (.ListComp elt gens scope pos) 0 (.ref I) (.ref D) (compEnvC scope cl C env)) (fun r s' => match r with
        | .error _ => False
        | .ok _ => ∃ h' tk' ys, s' = { s with heap := h', toks := tk' } ∧ Kp env.locals m s.heap h' ∧ h'.get? D = some (LCg.lst ys) ∧ (∃ m', h'.Ns C m') ∧ Fin ys tk') { s with heap := h₁, toks := tk₁ }

theorem comp_fresh {L : Addr} {m : Str → Option Value} {h h₂ : Heap} {m₀ : Str → Option Value} (n : h.Ns L m₀) (k : Kp L m h h₂) {a : Addr} (ha : h₂.objs.size ≤ a) : h.get? a = none := by
  cases e : h.get? a with
  | none => rfl
  | some o' =>
    exfalso
    by_cases c : a = L
    · subst c
      exact absurd k.ns.lt (Nat.not_lt.mpr ha)
    · exact absurd (Heap.lt_size (k.at c e)) (Nat.not_lt.mpr ha)

theorem comp_start {Fin : List Value → Nat → Prop} {it : Value} {s₂ : Shared} {m : Str → Option Value} {RR : Value → Addr → Result → Shared → Prop} (hn : s.heap.Ns env.locals m)
    (h : CompSt prog w A s m env elt (⟨target, iter, ifs, 0⟩ :: rest) scope cl pos Fin it s₂)
    (hcell : ∀ y ∈ scope.names, y.2 ≠ .cell) (hkind : scope.kind = .function)
    (hRR : ∀ D C h' tk' ys, s.heap.get? D = none → s.heap.get? C = none → D ≠ C → Kp env.locals m s.heap h' → h'.get? D = some (LCg.lst ys) → (∃ m', h'.Ns C m') → Fin ys tk' → ∀ f, RR (.ref D) C (.ok f) { s with heap := h', toks := tk' }) :
    wpAny (model prog w) A (newList []) (fun acc s₃ => wpAny (model prog w) A (newFunctionEnv scope env.globals cl [] env.qual none .none (some env)) (fun cenv s₄ =>
      codeAny (model prog w) A (.compStart (.ListComp elt (⟨target, iter, ifs, 0⟩ :: rest) scope pos) 0 it acc { cenv with scope := relabel scope env }) (RR acc cenv.locals) s₄) (fun _ _ => False) s₃) (fun _ _ => False) s₂ := by
  obtain ⟨I, h₂, tk₂, rfl, rfl, hk₂, self, loop⟩ := h
  refine wpAny_newObj_type (wpAny_newFunctionEnv hcell (by intro y hy; simp at hy) (fun h₁ hns₁ hsb₁ => ?_) hkind)
  dsimp only at hns₁ hsb₁ ⊢
  generalize hH2 : h₂.push { cls := .type "list", dict := none, data := .seq ([] : List Value).toArray } = H2 at hns₁ hsb₁ ⊢
  have hC : H2.objs.size = h₂.objs.size + 1 := by rw [← hH2, Heap.size_push]
  have hDC : h₂.objs.size ≠ H2.objs.size := by rw [hC]; exact Nat.ne_of_lt (Nat.lt_succ_self _)
  have below : ∀ b, b < h₂.objs.size → b ≠ H2.objs.size := fun b hb => by rw [hC]; exact Nat.ne_of_lt (Nat.lt_succ_of_lt hb)
  have old : ∀ b o, h₂.get? b = some o → h₁.get? b = some o := fun b o e => hsb₁.extBut b o (below b (Heap.lt_size e)) (Heap.get?_push_of_some _ (hH2 ▸ Heap.get?_push_of_some _ e))
  have hacc : h₁.get? h₂.objs.size = some (LCg.lst []) := hsb₁.extBut _ _ hDC (Heap.get?_push_of_some _ (hH2 ▸ Heap.get?_push_size _ rfl))
  have hns' : h₁.Ns H2.objs.size (fun _ => none) := hns₁
  have main : codeAny (model prog w) A (.compLoop (.ListComp elt (⟨target, iter, ifs, 0⟩ :: rest) scope pos) 0 (.ref I) (.ref h₂.objs.size) (compEnvC scope cl H2.objs.size env)) (RR (.ref h₂.objs.size) H2.objs.size) { s with heap := h₁, toks := tk₂ } := by
    refine codeAny_mono (loop h₂.objs.size H2.objs.size h₁ tk₂ rfl hC old hacc hns' (Nat.le_refl _)) fun r s' hr => ?_
    cases r with
    | error _ => exact hr.elim
    | ok f =>
      obtain ⟨h', tk', ys, rfl, hk', hD', hC', hF⟩ := hr
      exact hRR _ _ h' tk' ys (comp_fresh hn hk₂ (Nat.le_refl _)) (comp_fresh hn hk₂ (by rw [hC]; exact Nat.le_succ _)) hDC hk' hD' hC' hF f
  exact codeAny_compStart_list main (self _ old _ _ main)

theorem ns_there {h : Heap} {L : Addr} {m : Str → Option Value} (n : h.Ns L m) {a : Addr} (e : h.get? a = none) : a ≠ L := by
  obtain ⟨o, _, _, eL, _⟩ := n
  intro q
  rw [q, eL] at e
  cases e

theorem comp_eval {Q : Value → Shared → Prop} {Fin : List Value → Nat → Prop} {m : Str → Option Value} (hn : s.heap.Ns env.locals m)
    (hclos : closureFor scope env = pure cl) (hcell : ∀ y ∈ scope.names, y.2 ≠ .cell) (hkind : scope.kind = .function) (hnames : ∀ y ∈ scope.names, y.2 = .local → scope.names.lookup y.1 = some .local)
    (h : wpAny (model prog w) A (eval iter env) (fun xv s₁ => wpAny (model prog w) A (pyIter xv) (CompSt prog w A s m env elt (⟨target, iter, ifs, 0⟩ :: rest) scope cl pos Fin) (fun _ _ => False) s₁) (fun _ _ => False) s)
    (fin : ∀ D h' tk ys, Kp env.locals m s.heap h' → s.heap.get? D = none → h'.get? D = some (LCg.lst ys) → Fin ys tk → Q (.ref D) { s with heap := h', toks := tk })
    (hs : ∀ x, foldedSetIterable iter env x = pure x := by intro _; rfl) :
    wpAny (model prog w) A (eval (.ListComp elt (⟨target, iter, ifs, 0⟩ :: rest) scope pos) env) Q (fun _ _ => False) s := by
  rw [eval_ListComp]
  refine wpAny_comprehension_free (use := none) rfl hs hclos hkind hnames (wpAny_mono h (fun xv s₁ h₁ => wpAny_mono h₁ (fun it s₂ h₂ => ?_) fun _ _ x => x) fun _ _ x => x)
  refine comp_start hn h₂ hcell hkind fun D C h' tk' ys hD hC hDC hk hD' hC' hF f => ?_
  obtain ⟨m', hn'⟩ := hC'
  exact ⟨m', hn', fun h'' hs'' => fin D h'' tk' ys (hk.same hs'' hC (ns_there hn hC)) hD (hs''.extBut _ _ hDC hD') hF⟩

theorem comp_assign {Q : Flow → Shared → Prop} {Fin : List Value → Nat → Prop} {m : Str → Option Value} {y : Str} {py spos : Pos} (hn : s.heap.Ns env.locals m)
    (hsw : swapsWith (.ListComp elt (⟨target, iter, ifs, 0⟩ :: rest) scope pos) (some (.Name y py)) spos.line env = pure true)
    (hclos : closureFor scope env = pure cl) (hcell : ∀ y ∈ scope.names, y.2 ≠ .cell) (hkind : scope.kind = .function) (hnames : ∀ y ∈ scope.names, y.2 = .local → scope.names.lookup y.1 = some .local)
    (hy : env.kindOf y = some .local) (hp : (env.scope.kind == .class || (env.scope.kind == .module && env.locals != env.globals)) = false)
    (h : wpAny (model prog w) A (eval iter env) (fun xv s₁ => wpAny (model prog w) A (pyIter xv) (CompSt prog w A s m env elt (⟨target, iter, ifs, 0⟩ :: rest) scope cl pos Fin) (fun _ _ => False) s₁) (fun _ _ => False) s)
    (fin : ∀ D h' T tk ys, Kp env.locals (fun z => if z = y then some (.ref D) else m z) s.heap h' → s.heap.get? D = none → h'.get? D = some (LCg.lst ys) → Fin ys T → T ≤ tk → Q .next { s with heap := h', toks := tk })
    (hs : ∀ x, foldedSetIterable iter env x = pure x := by intro _; rfl) :
    wpAny (model prog w) A (exec (.Assign [.Name y py] (.ListComp elt (⟨target, iter, ifs, 0⟩ :: rest) scope pos) spos) env) Q (fun _ _ => False) s := by
  rw [exec_Assign_Name_used _ _ _ _ hsw]
  refine wpAny_bind (wpAny_standAt (wpAny_bind ?_))
  show wpAny _ A (do let _ ← comprehension (.ListComp elt (⟨target, iter, ifs, 0⟩ :: rest) scope pos) scope env _ (newList []) false (eval iter env) (some (assign (.Name y py) env))) _ _ s
  refine wpAny_bind (wpAny_mono (wpAny_comprehension_free (use := some (assign (.Name y py) env)) (Q := fun _ s' => Q .next s') rfl hs hclos hkind hnames
    (wpAny_mono h (fun xv s₁ h₁ => wpAny_mono h₁ (fun it s₂ h₂ => ?_) fun _ _ x => x) fun _ _ x => x)) (fun _ s' hq => wpAny_pure (wpAny_pure hq)) fun _ _ x => x)
  refine comp_start hn h₂ hcell hkind fun D C h' tk' ys hD hC hDC hk hD' hC' hF f => ?_
  obtain ⟨m', hn'⟩ := hC'
  have hCL := ns_there hn hC
  have hDL := ns_there hn hD
  show wpAny _ A (assign (.Name y py) env (.ref D)) _ _ _
  refine wpAny_assign_Name (wpAny_storeName_local hy hk.ns (fun h₂ hn₂ hs₂ => ?_) hp)
  have k₂ : Kp env.locals (fun z => if z = y then some (.ref D) else m z) s.heap h₂ := ⟨fun b o hb e => hs₂.extBut b o (by simpa using hb) (hk.but b o hb e), hn₂⟩
  exact ⟨m', hn'.sameBut hs₂ hCL, fun h'' hs'' => fin D h'' tk' _ ys (k₂.same hs'' hC hCL) hD (hs''.extBut _ _ hDC (hs₂.extBut _ _ hDL hD')) hF (Nat.le_succ _)⟩
end
end Mine
end CompPart
section Comp2Part
open PySem PySem.W PyProof.Rows PySem.Calls
set_option Elab.async false
set_option maxRecDepth 100000
set_option maxHeartbeats 2000000
namespace Mine
def emitOf (elt : Expr) (acc : Value) (env : Env) : Sem Unit := do let _ ← call (.builtin "list.append") [acc, ← eval elt env]
abbrev testsOf (ifs : List Expr) (env : Env) : Sem Bool := forIn ifs true fun c r => if r = true then do let ok ← isTrue c env (eval c env); pure (ForInStep.yield ok) else pure (ForInStep.yield r)
def innerOf (elt : Expr) (ifs : List Expr) (acc : Value) (env : Env) : Sem Unit := testsOf ifs env >>= fun ok => if ok = true then emitOf elt acc env else pure ()
theorem compTurn_inner (elt target iter : Expr) (ifs : List Expr) (scope : Scope) (pos : Pos) (I : Addr) (acc : Value) (env : Env) :
    compTurn (.ListComp elt [⟨target, iter, ifs, 0⟩] scope pos) 0 (.ref I) acc env = (standAt iter.pos >>= fun _ => pyNext (.ref I) >>= fun r => match r with
      | none => pure (.done .next)
      | some v => letOwnedTupleGo target (.ref I) v >>= fun _ => assign target env v >>= fun _ => innerOf elt ifs acc env >>= fun _ => again (.compLoop (.ListComp elt [⟨target, iter, ifs, 0⟩] scope pos) 0 (.ref I) acc env)) := by
  have e : (innerOf elt ifs acc env >>= fun _ => again (.compLoop (.ListComp elt [⟨target, iter, ifs, 0⟩] scope pos) 0 (.ref I) acc env)) =
      (testsOf ifs env >>= fun ok => if ok = true then (emitOf elt acc env >>= fun _ => again (.compLoop (.ListComp elt [⟨target, iter, ifs, 0⟩] scope pos) 0 (.ref I) acc env)) else again (.compLoop (.ListComp elt [⟨target, iter, ifs, 0⟩] scope pos) 0 (.ref I) acc env)) := by
    unfold innerOf
    rw [bind_assoc]
    congr 1
    funext ok
    cases ok with
    | true => rfl
    | false => rfl
  simp only [e]
  rfl

section
variable {prog : Program} {w : World} {A : Around} {s : Shared} {m : Str → Option Value} {env : Env} {target : Expr} {elt iter : Expr} {ifs : List Expr} {scope : Scope} {cl : List (Str × Addr)} {pos : Pos} {I : Addr} {fp wr : List Addr} {n : Nat} {P : Nat → Nat → Value → Heap → Prop} {St : Nat → Heap → Prop} {h₂ : Heap} {tk₂ : Nat}

/-- one clause: Bd says what the target's names hold; J what is known of the items made -/
theorem comp_one (It : Itr prog w A target I fp wr n P St) (Bd : Nat → Nat → (Str → Option Value) → Prop) (hn : s.heap.Ns env.locals m)
    (hk₂ : Kp env.locals m s.heap h₂) (hst : St 0 h₂) (hfp : ∀ b ∈ fp, b < h₂.objs.size) (hLf : env.locals ∉ fp) (hwr : ∀ b ∈ wr, s.heap.get? b = none) (hsz : n ≤ sizeLine)
    (asg : ∀ i v h₁ T tk₁ C m', i < n → P T i v h₁ → h₁.Ns C m' → ∀ Q : Shared → Prop, (∀ h' tk' m₂, h'.Ns C m₂ → Bd T i m₂ → But [C] h₁ h' → tk₁ ≤ tk' → Q { s with heap := h', toks := tk' }) →
      wpAny (model prog w) A (assign target (compEnvC scope cl C env) v) (fun _ s₂ => Q s₂) (fun _ _ => False) { s with heap := h₁, toks := tk₁ })
    (J : Nat → List Value → Nat → Prop) (J0 : ∀ T, tk₂ ≤ T → J 0 [] T)
    (step : ∀ i h₁ T tk₁ ys C m₂, i < n → J i ys T → T ≤ tk₁ → Bd T i m₂ → Kp env.locals m s.heap h₁ → h₁.Ns C m₂ → s.heap.get? C = none →
      wpAny (model prog w) A (testsOf ifs (compEnvC scope cl C env)) (fun ok s₃ => if ok = true then wpAny (model prog w) A (eval elt (compEnvC scope cl C env))
          (fun y s' => ∃ h' tk', s' = { s with heap := h', toks := tk' } ∧ Kp env.locals m h₁ h' ∧ J (i + 1) (ys ++ [y]) tk') (fun _ _ => False) s₃
        else ∃ h' tk', s₃ = { s with heap := h', toks := tk' } ∧ Kp env.locals m h₁ h' ∧ J (i + 1) ys tk') (fun _ _ => False) { s with heap := h₁, toks := tk₁ }) :
    CompSt prog w A s m env elt [⟨target, iter, ifs, 0⟩] scope cl pos (fun ys tk => ∃ T, T ≤ tk ∧ J n ys T) (.ref I) { s with heap := h₂, toks := tk₂ } := by
  refine ⟨I, h₂, tk₂, rfl, rfl, hk₂, fun s' hs' Q E q => It.self 0 s' Q E (It.frame _ _ _ hst fun b _ o e => hs' b o e) q, ?_⟩
  rintro D C h₁ tk₁ rfl rfl old hD hC htk
  have hDf : h₂.objs.size ∉ fp := fun hm => Nat.lt_irrefl _ (hfp _ hm)
  have hCf : h₂.objs.size + 1 ∉ fp := fun hm => Nat.lt_irrefl _ (Nat.lt_of_succ_lt (hfp _ hm))
  have hDw : h₂.objs.size ∉ wr := fun hm => hDf (It.sub _ hm)
  have hCw : h₂.objs.size + 1 ∉ wr := fun hm => hCf (It.sub _ hm)
  have hLw : env.locals ∉ wr := fun hm => hLf (It.sub _ hm)
  have hD₀ := comp_fresh hn hk₂ (Nat.le_refl _)
  have hC₀ := comp_fresh hn hk₂ (a := h₂.objs.size + 1) (Nat.le_succ _)
  have hDL := ns_there hn hD₀
  have hCL := ns_there hn hC₀
  have hDC : h₂.objs.size ≠ h₂.objs.size + 1 := Nat.ne_of_lt (Nat.lt_succ_self _)
  have kst : ∀ {i : Nat} {h h' : Heap}, St i h → Kp env.locals m h h' → St i h' := fun st k => It.frame _ _ _ st fun b hb o e => k.at (fun q => hLf (q ▸ hb)) e
  refine comp_loop It (compTurn_inner ..)
    (fun i h T => Kp env.locals m s.heap h ∧ ∃ ys m', ys.length ≤ i ∧ h.get? h₂.objs.size = some (LCg.lst ys) ∧ h.Ns (h₂.objs.size + 1) m' ∧ J i ys T) ?_
    ⟨hk₂.trans (.of hk₂.ns old), [], _, Nat.le_refl _, hD, hC, J0 _ htk⟩ (It.frame _ _ _ hst fun b _ o e => old b o e) ?_ ?_
  · rintro i h T h' ⟨k, ys, m', hl, hD', hC', hJ⟩ B
    exact ⟨⟨fun b o hb e => B b o (fun q => by rw [hwr b q] at e; cases e) (k.but b o hb e), k.ns.at' fun o e => B _ o hLw e⟩, ys, m', hl, B _ _ hDw hD', hC'.at' fun o e => B _ o hCw e, hJ⟩
  · rintro i v h₃ T tk₃ hi ⟨k, ys, m', hl, hD', hC', hJ⟩ hP hT st
    refine asg i v h₃ T tk₃ _ m' hi hP hC' _ fun h₄ tk₄ m₄ hn₄ hB₄ but₄ htk₄ => ?_
    have k₄ : Kp env.locals m s.heap h₄ := ⟨fun b o hb e => but₄ b o (fun q => by rw [List.mem_singleton.mp q, hC₀] at e; cases e) (k.but b o hb e), k.ns.at' fun o e => but₄ _ o (fun q => hCL (List.mem_singleton.mp q).symm) e⟩
    have D₄ : h₄.get? h₂.objs.size = some (LCg.lst ys) := but₄ _ _ (fun q => hDC (List.mem_singleton.mp q)) hD'
    have st₄ : St (i + 1) h₄ := It.frame _ _ _ st fun b hb o e => but₄ b o (fun q => hCf (by rw [← List.mem_singleton.mp q]; exact hb)) e
    unfold innerOf
    refine wpAny_bind (wpAny_mono (step i h₄ T tk₄ ys _ m₄ hi hJ (Nat.le_trans hT htk₄) hB₄ k₄ hn₄ hC₀) (fun ok s₅ h₅ => ?_) fun _ _ x => x)
    cases ok with
    | false =>
      simp only [Bool.false_eq_true, if_false] at h₅ ⊢
      obtain ⟨h', tk', rfl, k', hJ'⟩ := h₅
      exact wpAny_pure ⟨h', tk', rfl, kst st₄ k', k₄.trans k', ys, m₄, Nat.le_succ_of_le hl, k'.at hDL D₄, hn₄.at' fun o e => k'.at hCL e, hJ'⟩
    | true =>
      simp only [if_true] at h₅ ⊢
      unfold emitOf
      refine wpAny_bind (wpAny_mono h₅ (fun y s₆ h₆ => ?_) fun _ _ x => x)
      obtain ⟨h', tk', rfl, k', hJ'⟩ := h₆
      refine wpAny_bind (append_at (hsz := by show ys.toArray.size ≤ sizeLine; rw [List.size_toArray]; exact Nat.le_trans hl (Nat.le_trans (Nat.le_of_lt hi) hsz)) (k'.at hDL D₄) fun h₇ hs₇ hD₇ => wpAny_pure ?_)
      refine ⟨h₇, tk', rfl, It.frame _ _ _ (kst st₄ k') fun b hb o e => hs₇.extBut b o (fun q => hDf (by rw [← q]; exact hb)) e, (k₄.trans k').same hs₇ hD₀ hDL, ys ++ [y], m₄, ?_, ?_, ?_, hJ'⟩
      · rw [List.length_append, List.length_singleton]; exact Nat.succ_le_succ hl
      · exact hD₇.trans (congrArg some (LCg.lst_snoc ys y))
      · exact (hn₄.at' fun o e => k'.at hCL e).sameBut hs₇ (Ne.symm hDC)
  · rintro h' T tk' ⟨k, ys, m', hl, hD', hC', hJ⟩ hT
    exact ⟨h', tk', ys, rfl, k, hD', ⟨m', hC'⟩, T, hT, hJ⟩

theorem asg_name {x : Str} {px : Pos} {C : Addr} {v : Value} {h₁ : Heap} {tk₁ : Nat} {m' : Str → Option Value} {Q : Shared → Prop} (hx : scope.names.lookup x = some .local) (hkind : scope.kind = .function) (hn : h₁.Ns C m')
    (h : ∀ h' tk', h'.Ns C (fun y => if y = x then some v else m' y) → But [C] h₁ h' → tk₁ ≤ tk' → Q { s with heap := h', toks := tk' }) :
    wpAny (model prog w) A (assign (.Name x px) (compEnvC scope cl C env) v) (fun _ s₂ => Q s₂) (fun _ _ => False) { s with heap := h₁, toks := tk₁ } :=
  wpAny_assign_Name (wpAny_storeName_local (lookup_relabel_local hx) hn (fun h₃ hn₃ hs₃ => h h₃ _ hn₃ (fun b o hb e => hs₃.extBut b o (fun q => hb (List.mem_singleton.mpr q)) e) (Nat.le_succ _)) (by simp [compEnvC, relabel, hkind]))

/-- one name -/
theorem comp_name {x : Str} {px : Pos} (It : Itr prog w A (.Name x px) I fp wr n P St) (hn : s.heap.Ns env.locals m)
    (hk₂ : Kp env.locals m s.heap h₂) (hst : St 0 h₂) (hfp : ∀ b ∈ fp, b < h₂.objs.size) (hLf : env.locals ∉ fp) (hwr : ∀ b ∈ wr, s.heap.get? b = none) (hsz : n ≤ sizeLine)
    (hx : scope.names.lookup x = some .local) (hkind : scope.kind = .function) (V : Nat → Nat → Value → Prop) (hV : ∀ T i v h, P T i v h → V T i v)
    (J : Nat → List Value → Nat → Prop) (J0 : ∀ T, tk₂ ≤ T → J 0 [] T)
    (step : ∀ i v h₁ T tk₁ ys C m₂, i < n → J i ys T → T ≤ tk₁ → V T i v → m₂ x = some v → Kp env.locals m s.heap h₁ → h₁.Ns C m₂ → s.heap.get? C = none →
      wpAny (model prog w) A (testsOf ifs (compEnvC scope cl C env)) (fun ok s₃ => if ok = true then wpAny (model prog w) A (eval elt (compEnvC scope cl C env))
          (fun y s' => ∃ h' tk', s' = { s with heap := h', toks := tk' } ∧ Kp env.locals m h₁ h' ∧ J (i + 1) (ys ++ [y]) tk') (fun _ _ => False) s₃
        else ∃ h' tk', s₃ = { s with heap := h', toks := tk' } ∧ Kp env.locals m h₁ h' ∧ J (i + 1) ys tk') (fun _ _ => False) { s with heap := h₁, toks := tk₁ }) :
    CompSt prog w A s m env elt [⟨.Name x px, iter, ifs, 0⟩] scope cl pos (fun ys tk => ∃ T, T ≤ tk ∧ J n ys T) (.ref I) { s with heap := h₂, toks := tk₂ } := by
  refine comp_one It (fun T i m₂ => ∃ v, m₂ x = some v ∧ V T i v) hn hk₂ hst hfp hLf hwr hsz ?_ J J0 ?_
  · intro i v h₁ T tk₁ C m' _ hP hn Q hQ
    exact asg_name hx hkind hn fun h' tk' hn' hB htk => hQ h' tk' _ hn' ⟨v, by simp, hV _ _ _ _ hP⟩ hB htk
  · intro i h₁ T tk₁ ys C m₂ hi hJ hT hB hk hn hC
    obtain ⟨v, hv, hV'⟩ := hB
    exact step i v h₁ T tk₁ ys C m₂ hi hJ hT hV' hv hk hn hC

/-- over a list -/
theorem comp_list {x : Str} {px : Pos} {l : Addr} {items : Array Value} (hh : A.handled = none) (hn : s.heap.Ns env.locals m) (hk₂ : Kp env.locals m s.heap h₂) (hl : h₂.IsList l items) (hlL : l ≠ env.locals) (hsz : items.size ≤ sizeLine)
    (hx : scope.names.lookup x = some .local) (hkind : scope.kind = .function)
    (J : Nat → List Value → Nat → Prop) (J0 : ∀ T, tk₂ ≤ T → J 0 [] T)
    (step : ∀ i v h₁ T tk₁ ys C m₂, i < items.size → J i ys T → T ≤ tk₁ → items[i]? = some v → m₂ x = some v → Kp env.locals m s.heap h₁ → h₁.Ns C m₂ → s.heap.get? C = none →
      wpAny (model prog w) A (testsOf ifs (compEnvC scope cl C env)) (fun ok s₃ => if ok = true then wpAny (model prog w) A (eval elt (compEnvC scope cl C env))
          (fun y s' => ∃ h' tk', s' = { s with heap := h', toks := tk' } ∧ Kp env.locals m h₁ h' ∧ J (i + 1) (ys ++ [y]) tk') (fun _ _ => False) s₃
        else ∃ h' tk', s₃ = { s with heap := h', toks := tk' } ∧ Kp env.locals m h₁ h' ∧ J (i + 1) ys tk') (fun _ _ => False) { s with heap := h₁, toks := tk₁ }) :
    wpAny (model prog w) A (pyIter (.ref l)) (CompSt prog w A s m env elt [⟨.Name x px, iter, ifs, 0⟩] scope cl pos (fun ys tk => ∃ T, T ≤ tk ∧ J items.size ys T)) (fun _ _ => False) { s with heap := h₂, toks := tk₂ } := by
  have hlt : l < h₂.objs.size := by obtain ⟨_, e, _⟩ := hl; exact Heap.lt_size e
  have up : ∀ b o, h₂.get? b = some o → (h₂.push { cls := .type "list_iterator", data := .fields #[.ref l, .int 0 0] }).get? b = some o := fun b o e => Heap.get?_push_of_some _ e
  have hI := comp_fresh hn hk₂ (Nat.le_refl _)
  refine wpAny_pyIter_list hl ?_
  refine comp_name (Itr.ofWalks (Walks.list hh h₂.objs.size l (Nat.ne_of_lt hlt) items)) hn (hk₂.trans (.of hk₂.ns up)) ⟨⟨_, Heap.get?_push_size _ rfl, rfl, rfl⟩, hl.push _⟩ ?_ ?_ ?_ hsz hx hkind (fun _ i v => items[i]? = some v) (fun _ _ _ _ h => h) J J0 step
  · intro b hb
    rw [Heap.size_push]
    rcases List.mem_cons.mp hb with rfl | hb
    · exact Nat.lt_succ_self _
    · rw [List.mem_singleton.mp hb]; exact Nat.lt_succ_of_lt hlt
  · intro q
    rcases List.mem_cons.mp q with q | q
    · exact ns_there hn hI q.symm
    · exact hlL (List.mem_singleton.mp q).symm
  · intro b hb
    rw [List.mem_singleton.mp hb]; exact hI

/-- over a range -/
theorem comp_range {x : Str} {px : Pos} {r : Addr} {b : Int} {t u v : Tok} (hh : A.handled = none) (hn : s.heap.Ns env.locals m) (hk₂ : Kp env.locals m s.heap h₂) (hr : IsRange h₂ r 0 b 1 t u v) (hsm : Builtin.Range.small 0 b 1 = true) (hn' : Builtin.Range.rangeSize 0 b 1 = ((n : Nat) : Int)) (hsz : n ≤ sizeLine)
    (hx : scope.names.lookup x = some .local) (hkind : scope.kind = .function)
    (J : Nat → List Value → Nat → Prop) (J0 : ∀ T, tk₂ ≤ T → J 0 [] T)
    (step : ∀ i v h₁ T tk₁ ys C m₂, i < n → J i ys T → T ≤ tk₁ → v = .int (i : Int) T → m₂ x = some v → Kp env.locals m s.heap h₁ → h₁.Ns C m₂ → s.heap.get? C = none →
      wpAny (model prog w) A (testsOf ifs (compEnvC scope cl C env)) (fun ok s₃ => if ok = true then wpAny (model prog w) A (eval elt (compEnvC scope cl C env))
          (fun y s' => ∃ h' tk', s' = { s with heap := h', toks := tk' } ∧ Kp env.locals m h₁ h' ∧ J (i + 1) (ys ++ [y]) tk') (fun _ _ => False) s₃
        else ∃ h' tk', s₃ = { s with heap := h', toks := tk' } ∧ Kp env.locals m h₁ h' ∧ J (i + 1) ys tk') (fun _ _ => False) { s with heap := h₁, toks := tk₁ }) :
    wpAny (model prog w) A (pyIter (.ref r)) (CompSt prog w A s m env elt [⟨.Name x px, iter, ifs, 0⟩] scope cl pos (fun ys tk => ∃ T, T ≤ tk ∧ J n ys T)) (fun _ _ => False) { s with heap := h₂, toks := tk₂ } := by
  have up : ∀ c o, h₂.get? c = some o → (h₂.push { cls := .type "range_iterator", data := .fields #[rawInt 0, rawInt (Builtin.Range.rangeSize 0 b 1), rawInt 1] }).get? c = some o := fun b o e => Heap.get?_push_of_some _ e
  have hI := comp_fresh hn hk₂ (Nat.le_refl _)
  refine wpAny_pyIter_range hr hsm ?_
  refine comp_name (Itr.range (n := n) hh) hn (hk₂.trans (.of hk₂.ns up)) ?_ ?_ ?_ ?_ hsz hx hkind (fun T i v => v = .int (i : Int) T) (fun _ _ _ _ h => h) J J0 step
  · show IsRangeIter _ _ _ _ _
    rw [hn']
    simpa using Heap.get?_push_size _ rfl
  · intro c hc
    rw [Heap.size_push, List.mem_singleton.mp hc]
    exact Nat.lt_succ_self _
  · intro q
    exact ns_there hn hI (List.mem_singleton.mp q).symm
  · intro c hc
    rw [List.mem_singleton.mp hc]; exact hI

/-- over zip of two lists, with a test -/
theorem comp_zip {a b : Str} {pa pb tp : Pos} {kk : Nat} {l1 l2 : Addr} {xs ys : Array Value} (hh : A.handled = none) (hn : s.heap.Ns env.locals m) (hk₂ : Kp env.locals m s.heap h₂) (hl1 : h₂.IsList l1 xs) (hl2 : h₂.IsList l2 ys) (h1L : l1 ≠ env.locals) (h2L : l2 ≠ env.locals) (hsz : min xs.size ys.size ≤ sizeLine)
    (hxa : scope.names.lookup a = some .local) (hxb : scope.names.lookup b = some .local) (hab : a ≠ b) (hkind : scope.kind = .function)
    (J : Nat → List Value → Nat → Prop) (J0 : ∀ T, tk₂ ≤ T → J 0 [] T)
    (step : ∀ i x y h₁ T tk₁ zs C m₂, i < min xs.size ys.size → J i zs T → T ≤ tk₁ → xs[i]? = some x → ys[i]? = some y → m₂ a = some x → m₂ b = some y → Kp env.locals m s.heap h₁ → h₁.Ns C m₂ → s.heap.get? C = none →
      wpAny (model prog w) A (testsOf ifs (compEnvC scope cl C env)) (fun ok s₃ => if ok = true then wpAny (model prog w) A (eval elt (compEnvC scope cl C env))
          (fun y s' => ∃ h' tk', s' = { s with heap := h', toks := tk' } ∧ Kp env.locals m h₁ h' ∧ J (i + 1) (zs ++ [y]) tk') (fun _ _ => False) s₃
        else ∃ h' tk', s₃ = { s with heap := h', toks := tk' } ∧ Kp env.locals m h₁ h' ∧ J (i + 1) zs tk') (fun _ _ => False) { s with heap := h₁, toks := tk₁ }) :
    wpAny (model prog w) A (call (.type "zip") [.ref l1, .ref l2]) (fun xv s₁ => wpAny (model prog w) A (pyIter xv) (CompSt prog w A s m env elt [⟨.Tuple [.Name a pa, .Name b pb] kk tp, iter, ifs, 0⟩] scope cl pos (fun zs tk => ∃ T, T ≤ tk ∧ J (min xs.size ys.size) zs T)) (fun _ _ => False) s₁) (fun _ _ => False) { s with heap := h₂, toks := tk₂ } := by
  have hlt1 : l1 < h₂.objs.size := by obtain ⟨_, e, _⟩ := hl1; exact Heap.lt_size e
  have hlt2 : l2 < h₂.objs.size := by obtain ⟨_, e, _⟩ := hl2; exact Heap.lt_size e
  have hLlt : env.locals < h₂.objs.size := hk₂.ns.lt
  refine call_zip_2 hl1 hl2 fun h₃ hz hp1 hp2 hi1 hi2 hsz3 hk₃ => ?_
  dsimp only at hz hp1 hp2 hi1 hi2 hsz3 hk₃ ⊢
  refine wpAny_pyIter_zip hz ?_
  have D : ZipApart (h₂.objs.size + 4) (h₂.objs.size + 2) (h₂.objs.size + 3) h₂.objs.size (h₂.objs.size + 1) l1 l2 := ktu_apart h₂.objs.size l1 l2 hlt1 hlt2
  have W := WalksT.zip2 (prog := prog) (w := w) hh _ _ _ _ _ l1 l2 D xs ys
  refine comp_one (Itr.ofTurns (KTurns.ofWalksU (elts := [.Name a pa, .Name b pb]) (k := kk) (pos := tp) W.toU) W.self) (fun _ i m₂ => ∃ x y, xs[i]? = some x ∧ ys[i]? = some y ∧ m₂ a = some x ∧ m₂ b = some y) hn (hk₂.trans (.of hk₂.ns hk₃))
    ⟨hz, hp1, ⟨_, _, hp2⟩, hi1, hi2, hl1.at fun o e => hk₃ _ o e, hl2.at fun o e => hk₃ _ o e⟩ ?_ ?_ ?_ hsz ?_ J J0 ?_
  · intro c hc
    rw [hsz3]
    simp only [List.mem_cons, List.not_mem_nil, or_false] at hc
    rcases hc with rfl | rfl | rfl | rfl | rfl | rfl | rfl
    · exact Nat.add_lt_add_left (by decide) _
    · exact Nat.add_lt_add_left (by decide) _
    · exact Nat.add_lt_add_left (by decide) _
    · exact Nat.lt_add_of_pos_right (by decide)
    · exact Nat.add_lt_add_left (by decide) _
    · exact Nat.lt_of_lt_of_le hlt1 (Nat.le_add_right _ _)
    · exact Nat.lt_of_lt_of_le hlt2 (Nat.le_add_right _ _)
  · intro hc
    simp only [List.mem_cons, List.not_mem_nil, or_false] at hc
    rcases hc with e | e | e | e | e | e | e
    · exact ktu_ne 4 hLlt e
    · exact ktu_ne 2 hLlt e
    · exact ktu_ne 3 hLlt e
    · exact Nat.ne_of_lt hLlt e
    · exact ktu_ne 1 hLlt e
    · exact h1L e.symm
    · exact h2L e.symm
  · intro c hc
    refine comp_fresh hn hk₂ ?_
    simp only [List.mem_cons, List.not_mem_nil, or_false] at hc
    rcases hc with rfl | rfl | rfl | rfl
    · exact Nat.le_add_right _ _
    · exact Nat.le_add_right _ _
    · exact Nat.le_refl _
    · exact Nat.le_add_right _ _
  · intro i v h₁ T tk₁ C m' _ hP hnC Q hQ
    obtain ⟨Tt, vals, rfl, ⟨x, y, hx, hy, rfl⟩, hT⟩ := hP
    refine wpAny_with_toks (n := tk₁) (Nat.le_refl _) (kcp_assign hh hT (lookup_relabel_local hxa) (lookup_relabel_local hxb) (by simp [compEnvC, relabel, hkind]) hnC fun h' tk' hn' hk' htk => ?_)
    refine hQ h' tk' _ hn' ⟨x, y, hx, hy, ?_, ?_⟩ (fun c o hc e => hk' c o (fun q => hc (List.mem_singleton.mpr q)) e) htk
    · rw [if_neg hab, if_pos rfl]
    · rw [if_pos rfl]
  · intro i h₁ T tk₁ zs C m₂ hi hJ hT hB hk hnC hC
    obtain ⟨x, y, hx, hy, ha, hb⟩ := hB
    exact step i x y h₁ T tk₁ zs C m₂ hi hJ hT hx hy ha hb hk hnC hC
end
end Mine
end Comp2Part
section ToldPart
open PySem PySem.W PyProof.Rows PySem.Calls
set_option Elab.async false
set_option maxRecDepth 100000
set_option maxHeartbeats 2000000
namespace Mine
theorem fill5 : ∀ w : World, (fun (_ : OpenLaw) (_ : Frag) => True) PySem.Challenge.rw_pg0079_01 (Mine.hd.heap_39 w.params) := by
  w_top off
  k_fill
  intros
  trivial
local macro_rules | `(tactic| walk_at "mine cells") => `(tactic| (refine' enter_cells (by assumption) (by assumption) ?k6 ?k7 ?k9 ?kB ?kD ?c2 ?c3 ?c4 ?_; (case k6 => k_is); (case k7 => k_is); (case k9 => exact BindsTo.of_eq rfl); (case kB => exact rfl); (case kD => decide +kernel); (case c2 => exact rfl); (case c3 => exact rfl); (case c4 => exact rfl)))
local macro_rules | `(tactic| walk_at "mine stop") => `(tactic| first
  | (with_reducible show wpAny _ _ (exec (Stmt.For _ _ _ _ _) _) _ _ _)
  | (with_reducible show wpAny _ _ (exec (Stmt.Assign _ (Expr.ListComp _ _ _ _) _) _) _ _ _)
  | (with_reducible show wpAny _ _ (eval (Expr.ListComp _ _ _ _) _) _ _ _)
  | (with_reducible show wpAny _ _ (call (Value.type _) _) _ _ _)
  | (with_reducible show wpAny _ _ (call (Value.ref _) _) _ _ _))
local macro_rules | `(tactic| walk_at "mine steps") => `(tactic| repeat' ((fail_if_success (walk_at "mine stop")); first | (k_unfold; (try dsimp only)) | walk1 | (dsimp only; walk1)))
set_option pp.deepTerms false
set_option pp.deepTerms.threshold 6
/-- the ledger of all that stands, for a block's turn -/
theorem turn_led {h₀ h h₁ : Heap} {L C : Addr} {m m₂ : Str → Option Value} (F : Fr h₀ L h m) (k : Kp L m h h₁) (hn : h₁.Ns C m₂) (hC : h.get? C = none) :
    ∃ all oC, News h₀ L h₁ all ∧ (C, oC) ∈ all ∧ LCg.NsObj oC m₂ ∧ (∀ b o, h.get? b = some o → b ≠ L → h₀.get? b = none → (b, o) ∈ all) ∧
      ∀ h' m' news', Fr h₀ L h' m' → News h₀ L h' news' → (∀ p ∈ all, p ∈ news') → Kp L m' h₁ h' := by
  obtain ⟨oC, eC, hoC⟩ := LCg.ns_obj hn
  have hC₀ : h₀.get? C = none := by
    cases q : h₀.get? C with
    | none => rfl
    | some o => have := F.keep _ _ q; rw [hC] at this; cases this
  exact ⟨allNews h₀ L h₁, oC, news_all, mem_all eC (ns_there F.ns hC) hC₀, hoC, fun b o e hL h0 => mem_all (k.at hL e) hL h0, fun h' m' news' F' N' hs => kp_all (k.fr F) F' N' hs⟩

theorem told_spec {w : World} {A : Around} {s : Shared} {lw : Addr} {vs : List Value} {us : List Str} {text : Str} {tt : Tok} {Q : Value → Shared → Prop} (G : Gnd w s.heap) (hr : Room A (1 + 1))
   (hl : s.heap.IsList lw vs.toArray) (hvs : StrsAre vs us) (hsz : us.length ≤ 100000) (htl : text.length ≤ 1000) (hul : ∀ u ∈ us, u.length ≤ 100)
   (hne : ∀ u ∈ us, u.cps.toList ≠ [] ∧ ∀ c ∈ u.cps.toList, c ≠ 46)
   (h : ∀ D h' tk, (∀ b o, s.heap.get? b = some o → h'.get? b = some o) → s.heap.get? D = none →
      h'.get? D = some (LCg.lst (us.map fun u => .bool (u.cps.toList.isSublist text.cps.toList))) → Q (.ref D) { s with heap := h', toks := tk }) :
   wpAny (model Pg w) A (call (.ref 73) [.ref lw, .str text tt]) Q (fun _ _ => False) s := by
  walk_at "mine cells"
  have G₀ := G
  obtain ⟨X, mean, mg, mb, T⟩ := G
  intro L h₁ tk cells dp fr gd un F N Y hr' htk
  k_cells Y
  try dsimp only
  walk_at "mine steps"
  have hlL : lw ≠ L := by
    obtain ⟨_, e, _⟩ := hl
    exact Nat.ne_of_lt (Nat.lt_of_lt_of_le (Heap.lt_size e) F.above)
  have hl₁ : Heap.IsList h₁ lw vs.toArray := hl.at fun o e => F.keep lw o e
  have hvl : vs.length = us.length := hvs.length
  refine comp_eval (Fin := fun ys tk => ∃ T, T ≤ tk ∧ ys = (us.take vs.toArray.size).map fun u => .bool (u.cps.toList.isSublist text.cps.toList)) F.ns (by rfl) (by decide) (by rfl) (by decide) ?_ ?_
  · walk_at "mine steps"
    refine comp_list (items := vs.toArray) rfl F.ns (Kp.of F.ns fun _ _ e => e) hl₁ hlL ?_ (by rfl) (by rfl) (fun i ys _ => ys = (us.take i).map fun u => .bool (u.cps.toList.isSublist text.cps.toList)) (fun _ _ => rfl) ?_
    · rw [List.size_toArray, hvl, sizeLine]; omega
    · intro i v h₂ T₂ tk₂ ys C m₂ hi hJ hT hv hx hk hn hC
      refine wpAny_tests_nil ?_
      simp only [if_true]
      rename_i o' d1'
      obtain ⟨all, oC, N₂, mC, hoC, hall, kp⟩ := turn_led F hk hn hC
      have mT : (L + 1, o') ∈ all := hall _ _ (N (L + 1, o') (by k_mem)).1 (N (L + 1, o') (by k_mem)).2.1 (N (L + 1, o') (by k_mem)).2.2
      have F₂ := hk.fr F
      have hi2 : i < us.length := by simpa [hvl] using hi
      have hv' : ∃ t, v = .str us[i] t := by
        obtain ⟨t, e⟩ := hvs.get i us[i] (List.getElem?_eq_getElem hi2)
        rw [List.getElem?_toArray, e] at hv
        exact ⟨t, (Option.some.inj hv).symm⟩
      obtain ⟨tv, rfl⟩ := hv'
      have hul' := hul us[i] (List.getElem_mem hi2)
      have G₂ : Gnd w h₂ := G₀.keeps F₂.keep
      have hw := hne us[i] (List.getElem_mem hi2)
      have hjl : (Txt.join (Str.ofString "...") (signs us[i])).length ≤ 400 := Nat.le_trans (join_length _) (by omega)
      have hwant := want_pat hw.1
      have hup : us.take (i + 1) = us.take i ++ [us[i]] := List.take_succ_eq_append_getElem hi2
      generalize us[i] = u at *
      clear F N hl₁
      walk_at "mine steps"
      rename_i F₃ N₃ _ _ l1 _ _ l2
      have hsp := split_pat hwant hw.2
      have hin := occ_some hwant hw.2
      have hl3 : (Str.ofString "...").length = 3 := by decide +kernel
      refine ellipsis_spec (G₀.keeps F₃.keep) hr' htl ?_ hin hsp (ell_all text u.cps.toList) ?_
      · rw [hl3] at l1 l2
        exact Nat.le_trans l2.2 (by omega)
      · intro h' tk' hk'
        refine ⟨h', tk', rfl, kp h' _ all (F₃.keeps hk') (N₃.grown hk') (fun _ h => h), ?_⟩
        rw [hup, List.map_append, ← hJ]
        rfl
  · intro D h' tk' ys hk hD hD' hF
    obtain ⟨_, _, rfl⟩ := hF
    have e : us.take vs.toArray.size = us := List.take_of_length_le (by simp [hvl])
    rw [e] at hD'
    refine h D h' tk' (hk.fr F).keep ?_ hD'
    cases q : s.heap.get? D with
    | none => rfl
    | some o => have := F.keep _ _ q; rw [hD] at this; cases this
end Mine
end ToldPart
section RowPart
open PySem PySem.W PyProof.Rows PySem.Calls
set_option Elab.async false
set_option maxRecDepth 100000
set_option maxHeartbeats 2000000
namespace Mine
theorem fill6 : ∀ w : World, (fun (_ : OpenLaw) (_ : Frag) => True) PySem.Challenge.rw_pg0079_01 (Mine.hd.heap_39 w.params) := by
  w_top off
  k_fill
  intros
  trivial
local macro_rules | `(tactic| walk_at "mine cells") => `(tactic| (refine' enter_cells (by assumption) (by assumption) ?k6 ?k7 ?k9 ?kB ?kD ?c2 ?c3 ?c4 ?_; (case k6 => k_is); (case k7 => k_is); (case k9 => exact BindsTo.of_eq rfl); (case kB => exact rfl); (case kD => decide +kernel); (case c2 => exact rfl); (case c3 => exact rfl); (case c4 => exact rfl)))
local macro_rules | `(tactic| walk_at "mine stop") => `(tactic| first
  | (with_reducible show wpAny _ _ (exec (Stmt.For _ _ _ _ _) _) _ _ _)
  | (with_reducible show wpAny _ _ (exec (Stmt.Assign _ (Expr.ListComp _ _ _ _) _) _) _ _ _)
  | (with_reducible show wpAny _ _ (eval (Expr.ListComp _ _ _ _) _) _ _ _)
  | (with_reducible show wpAny _ _ (call (Value.type _) _) _ _ _)
  | (with_reducible show wpAny _ _ (call (Value.ref _) _) _ _ _)
  | (with_reducible show Exists _))
local macro_rules | `(tactic| walk_at "mine steps") => `(tactic| repeat' ((fail_if_success (walk_at "mine stop")); first | (k_unfold; (try dsimp only)) | walk1 | (dsimp only; walk1)))
local macro_rules | `(tactic| walk_at "execs cons") => `(tactic| (refine execs_toks (n := 1) (by first | assumption | omega) ?_; intro tk htk; (try dsimp only)))
set_option pp.deepTerms false
set_option pp.deepTerms.threshold 6
def placeOf (letters : Str) (spot : Int) (u : Str) : Int := Txt.find letters (Txt.item u spot)
def placesOf (letters : Str) (spot : Int) (us : List Str) (bs : List Bool) : List Int := ((us.zip bs).filter (fun p => p.2)).map fun p => placeOf letters spot p.1
def rowOf (k : Nat) (ps : List Int) (n : Nat) : List Int := (List.range n).map fun (p : Nat) => ((k : Int) - 1) * ((ps.count (p : Int) : Nat) : Int) + 1
theorem rowOf_succ (k : Nat) (ps : List Int) (n : Nat) : rowOf k ps (n + 1) = rowOf k ps n ++ [((k : Int) - 1) * ((ps.count (n : Int) : Nat) : Int) + 1] := by
  unfold rowOf
  rw [List.range_succ, List.map_append]
  rfl
theorem TokOk.nil (T : Nat) : TokOk [] [] T := ⟨IntsAre.nil, (fun _ h => (nomatch h)), (fun _ h => (nomatch h)), List.Pairwise.nil⟩
theorem TokOk.snoc {vs : List Value} {ns : List Int} {T T' : Nat} {n : Int} {t : Tok} (h : TokOk vs ns T) (h0 : t ≠ 0) (h1 : T ≤ t) (h2 : t < T') : TokOk (vs ++ [.int n t]) (ns ++ [n]) T' where
  are := h.are.append (.cons _ _ .nil)
  nz := fun v hv => by
    rcases List.mem_append.mp hv with hv | hv
    · exact h.nz v hv
    · rw [List.mem_singleton.mp hv]; exact h0
  lt := fun v hv => by
    rcases List.mem_append.mp hv with hv | hv
    · exact Nat.lt_trans (h.lt v hv) (Nat.lt_of_le_of_lt h1 h2)
    · rw [List.mem_singleton.mp hv]; exact h2
  ne := by
    refine List.pairwise_append.mpr ⟨h.ne, List.pairwise_singleton _ _, fun a ha b hb => ?_⟩
    rw [List.mem_singleton.mp hb]
    exact Nat.ne_of_lt (Nat.lt_of_lt_of_le (h.lt a ha) h1)
theorem placesOf_length (letters : Str) (spot : Int) (us : List Str) (bs : List Bool) : (placesOf letters spot us bs).length ≤ us.length := by
  unfold placesOf
  rw [List.length_map]
  refine Nat.le_trans (List.length_filter_le _ _) ?_
  rw [List.length_zip]
  exact Nat.min_le_left _ _
theorem row_spec {w : World} {A : Around} {s : Shared} {lw lt : Addr} {vs : List Value} {us : List Str} {bs : List Bool} {letters : Str} {tl : Tok} {spot : Int} {tp : Tok} {Q : Value → Shared → Prop} (G : Gnd w s.heap) (hr : Room A (1 + 1))
   (h1 : 1 ≤ s.toks) (hk3 : letters.length ≤ 3) (hk1 : 1 ≤ letters.length) (hsp1 : -1 ≤ spot) (hsp2 : spot ≤ 0)
   (hl : s.heap.IsList lw vs.toArray) (hvs : StrsAre vs us) (hsz : us.length ≤ 1000) (ht : s.heap.IsList lt (bs.map Value.bool).toArray) (hbl : bs.length = us.length)
   (hul : ∀ u ∈ us, 1 ≤ u.length ∧ u.length ≤ 100)
   (h : ∀ D h' tk zs T, (∀ b o, s.heap.get? b = some o → h'.get? b = some o) → s.heap.get? D = none → h'.get? D = some (LCg.lst zs) →
      TokOk zs (rowOf letters.length (placesOf letters spot us bs) letters.length) T → T ≤ tk → Q (.ref D) { s with heap := h', toks := tk }) :
   wpAny (model Pg w) A (call (.ref 78) [.str letters tl, .ref lw, .ref lt, .int spot tp]) Q (fun _ _ => False) s := by
  walk_at "mine cells"
  have G₀ := G
  obtain ⟨X, mean, mg, mb, T⟩ := G
  intro L h₁ tk cells dp fr gd un F N Y hr' htk
  k_cells Y
  try dsimp only
  have htk1 : 1 ≤ tk := Nat.le_trans h1 htk
  walk_at "mine steps"
  refine use_sub G₀ F N hr' ?_
  intro t₂ h₂ tk₂ F₂ N₂ _ htk₂
  clear F N
  walk_at "mine steps"
  refine wpAny_Assign_Name ?_
  rename_i o4 oL o2 o1 d4 dL d2 d1 _ _ _ h₃ o3 F₃ N₃ d3 _ tk₃ htk₃
  have hlL : ∀ {a : Addr} {xs : Array Value}, s.heap.IsList a xs → a ≠ L := by
    intro a xs hl
    obtain ⟨_, e, _⟩ := hl
    exact Nat.ne_of_lt (Nat.lt_of_lt_of_le (Heap.lt_size e) F₃.above)
  have hvl : vs.length = us.length := hvs.length
  refine comp_eval (Fin := fun ys tk => ∃ T, T ≤ tk ∧ (1 ≤ T ∧ IntsAre ys (placesOf letters spot (us.take (min vs.toArray.size (bs.map Value.bool).toArray.size)) (bs.take (min vs.toArray.size (bs.map Value.bool).toArray.size))) ∧ ∀ v ∈ ys, tokOf v ≠ 0 ∧ tokOf v < T)) F₃.ns (by rfl) (by decide) (by rfl) (by decide) ?_ ?_
  · walk_at "mine steps"
    refine comp_zip (xs := vs.toArray) (ys := (bs.map Value.bool).toArray) rfl F₃.ns (Kp.of F₃.ns fun _ _ e => e) (hl.at fun o e => F₃.keep _ o e) (ht.at fun o e => F₃.keep _ o e) (hlL hl) (hlL ht) ?_ (by rfl) (by rfl) (by decide) (by rfl)
      (fun i ys T => 1 ≤ T ∧ IntsAre ys (placesOf letters spot (us.take i) (bs.take i)) ∧ ∀ v ∈ ys, tokOf v ≠ 0 ∧ tokOf v < T) (fun T hT => ⟨Nat.le_trans htk₃ hT, .nil, fun v hv => by cases hv⟩) ?_
    · rw [List.size_toArray, hvl, sizeLine]; omega
    · intro i x y h₄ T₄ tk₄ zs C m₂ hi hJ hT hx hy hma hmb hk hn hC
      obtain ⟨all, oC, N₄, mC, hoC, hall, kp⟩ := turn_led F₃ hk hn hC
      have F₄ := hk.fr F₃
      have m1 := hall _ _ (N₃ _ (.tail _ (.tail _ (.tail _ (.head _))))).1 (N₃ _ (.tail _ (.tail _ (.tail _ (.head _))))).2.1 (N₃ _ (.tail _ (.tail _ (.tail _ (.head _))))).2.2
      have m2 := hall _ _ (N₃ _ (.tail _ (.tail _ (.head _)))).1 (N₃ _ (.tail _ (.tail _ (.head _)))).2.1 (N₃ _ (.tail _ (.tail _ (.head _)))).2.2
      have hi2 : i < us.length := by
        rw [List.size_toArray, List.size_toArray, hvl, List.length_map, hbl, Nat.min_self] at hi
        exact hi
      have hi3 : i < bs.length := by rw [hbl]; exact hi2
      obtain ⟨tx, rfl⟩ : ∃ t, x = .str us[i] t := by
        obtain ⟨t, e⟩ := hvs.get i us[i] (List.getElem?_eq_getElem hi2)
        rw [List.getElem?_toArray, e] at hx
        exact ⟨t, (Option.some.inj hx).symm⟩
      have hy' : y = .bool bs[i] := by
        rw [List.getElem?_toArray, List.getElem?_map, List.getElem?_eq_getElem hi3] at hy
        exact (Option.some.inj hy).symm
      subst hy'
      have hu := hul us[i] (List.getElem_mem hi2)
      have hup : us.take (i + 1) = us.take i ++ [us[i]] := List.take_succ_eq_append_getElem hi2
      have hbp : bs.take (i + 1) = bs.take i ++ [bs[i]] := List.take_succ_eq_append_getElem hi3
      have hpl : placesOf letters spot (us.take (i + 1)) (bs.take (i + 1)) = placesOf letters spot (us.take i) (bs.take i) ++ (if bs[i] = true then [placeOf letters spot us[i]] else []) := by
        unfold placesOf
        rw [hup, hbp, List.zip_append (by simp; omega), List.filter_append, List.map_append]
        congr 1
        cases bs[i] <;> rfl
      generalize us[i] = u at *
      generalize bs[i] = bb at *
      clear N₃ F₃
      refine wpAny_tests_one ?_
      walk_at "mine steps"
      · rename bb = true => hbt
        refine ⟨_, tk₄ + 1 + 1, rfl, kp _ _ all (by k_asm) (by k_asm) (fun _ h => h), Nat.le_trans hJ.1 (by omega), ?_, ?_⟩
        · rw [hpl, if_pos hbt]
          exact hJ.2.1.append (.cons _ _ .nil)
        · intro v hv
          rcases List.mem_append.mp hv with hv | hv
          · exact ⟨(hJ.2.2 v hv).1, Nat.lt_of_lt_of_le (hJ.2.2 v hv).2 (by omega)⟩
          · rw [List.mem_singleton.mp hv]
            exact ⟨by show tk₄ + 1 ≠ 0; omega, by show tk₄ + 1 < _; omega⟩
      · rename bb = false => hbt
        refine ⟨_, tk₄, rfl, kp _ _ all (by k_asm) (by k_asm) (fun _ h => h), Nat.le_trans hJ.1 (by omega), ?_, ?_⟩
        · rw [hpl, if_neg (by rw [hbt]; exact Bool.false_ne_true), List.append_nil]
          exact hJ.2.1
        · intro v hv
          exact ⟨(hJ.2.2 v hv).1, Nat.lt_of_lt_of_le (hJ.2.2 v hv).2 (by omega)⟩
  · intro D h₅ tk₅ ys hk hD hD' hF
    obtain ⟨T₅, hT₅, h1T, hints, htok⟩ := hF
    have e1 : min vs.toArray.size (bs.map Value.bool).toArray.size = us.length := by
      rw [List.size_toArray, List.size_toArray, hvl, List.length_map, hbl, Nat.min_self]
    rw [e1, List.take_length, ← hbl, List.take_length] at hints
    have F₅ := hk.fr F₃
    have N₅ := hk.news N₃
    have hDL : D ≠ L := ns_there F₃.ns hD
    have hD₀ : s.heap.get? D = none := by
      cases q : s.heap.get? D with
      | none => rfl
      | some o => have := F₃.keep _ _ q; rw [hD] at this; cases this
    have hDn : ∀ p ∈ [(L + 1 + 1 + 1 + 1, o4), (L + 1 + 1 + 1, o3), (L + 1 + 1, o2), (L + 1, o1)], p.1 ≠ D := by
      intro p hp q
      have := (N₃ p hp).1
      rw [q, hD] at this
      cases this
    have N₆ : News s.heap L h₅ ((D, LCg.lst ys) :: [(L + 1 + 1 + 1 + 1, o4), (L + 1 + 1 + 1, o3), (L + 1 + 1, o2), (L + 1, o1)]) := by
      intro p hp
      rcases List.mem_cons.mp hp with rfl | hp
      · exact ⟨hD', hDL, hD₀⟩
      · exact N₅ p hp
    clear F₃ N₃ N₅
    refine wpAny_with_toks (n := T₅) hT₅ ?_
    walk1
    rename_i h₇ o5 F₇ N₇ d5
    intro hTa _
    refine execs_toks (n := T₅) hTa ?_
    intro tk₇ htk₇
    dsimp only [List.cons_append, List.nil_append] at N₇ ⊢
    walk_at "mine steps"
    refine comp_eval (Fin := fun ys tk => ∃ T, T ≤ tk ∧ (T₅ ≤ T ∧ TokOk ys (rowOf letters.length (placesOf letters spot us bs) letters.length) T)) F₇.ns (by rfl) (by decide) (by rfl) (by decide) ?_ ?_
    · walk_at "mine steps"
      refine call_range_1 ?_
      dsimp only
      have hsm : Builtin.Range.small 0 ((letters.length : Nat) : Int) 1 = true ∧ Builtin.Range.rangeSize 0 ((letters.length : Nat) : Int) 1 = ((letters.length : Nat) : Int) := by
        have : letters.length = 1 ∨ letters.length = 2 ∨ letters.length = 3 := by omega
        rcases this with e | e | e <;> rw [e] <;> exact ⟨by decide, by decide⟩
      refine' comp_range (n := letters.length) (J := fun i ys T => T₅ ≤ T ∧ TokOk ys (rowOf letters.length (placesOf letters spot us bs) i) T) ?q1 ?q2 ?q3 ?q4 ?q5 ?q6 ?q7 ?q8 ?q9 ?q10 ?q11
      case q1 => rfl
      case q2 => exact F₇.ns
      case q3 => exact Kp.of F₇.ns fun b o e => Heap.get?_push_of_some _ e
      case q4 => exact IsRange.new ..
      case q5 => exact hsm.1
      case q6 => exact hsm.2
      case q7 => rw [sizeLine]; omega
      case q8 => rfl
      case q9 => rfl
      case q10 => exact fun T hT => ⟨Nat.le_trans (Nat.le_trans htk₇ (by omega)) hT, TokOk.nil T⟩
      intro i v h₈ T₈ tk₈ zs C m₂ hi hJ hT hv hx hk hn hC
      subst hv
      refine wpAny_tests_nil ?_
      simp only [if_true]
      obtain ⟨all, oC, N₈, mC, hoC, hall, kp⟩ := turn_led F₇ hk hn hC
      have F₈ := hk.fr F₇
      have mD := hall _ _ (N₇ _ (.head _)).1 (N₇ _ (.head _)).2.1 (N₇ _ (.head _)).2.2
      have m5 := hall _ _ (N₇ _ (.tail _ (.head _))).1 (N₇ _ (.tail _ (.head _))).2.1 (N₇ _ (.tail _ (.head _))).2.2
      have m3 := hall _ _ (N₇ _ (.tail _ (.tail _ (.head _)))).1 (N₇ _ (.tail _ (.tail _ (.head _)))).2.1 (N₇ _ (.tail _ (.tail _ (.head _)))).2.2
      clear F₇ N₇
      walk_at "mine steps"
      refine wpAny_with_toks (n := T₈) hT (never_noted (countOf_spec (ns := placesOf letters spot us bs) (vs := ys) (G₀.keeps F₈.keep) hr' ⟨_, (N₈ _ mD).1, rfl, _, rfl⟩ hints (fun v hv => (htok v hv).1) (Nat.ne_of_gt (Nat.lt_of_lt_of_le h1T hJ.1)) (fun v hv => Nat.ne_of_lt (Nat.lt_of_lt_of_le (htok v hv).2 hJ.1)) ?_))
      intro t₉ h₉ tk₉ hk₉ hT₉
      dsimp only at hT₉
      have F₉ := F₈.keeps hk₉
      have N₉ := N₈.grown hk₉
      have hcnt : (placesOf letters spot us bs).count (i : Int) ≤ 1000 := Nat.le_trans List.count_le_length (Nat.le_trans (placesOf_length _ _ _ _) hsz)
      walk_at "mine steps"
      refine use_mul G₀ F₉ N₉ hr' (by omega) (by omega) (by omega) (by omega) ?_
      intro t₁₀ h₁₀ tk₁₀ F₁₀ N₁₀ q1 q2
      dsimp only at q1
      walk_at "mine steps"
      refine use_add G₀ F₁₀ N₁₀ hr' ?_
      intro t₁₁ h₁₁ tk₁₁ F₁₁ N₁₁ q3 q4
      dsimp only at q3
      refine ⟨h₁₁, tk₁₁, rfl, kp _ _ all F₁₁ N₁₁ (fun _ h => h), Nat.le_trans hJ.1 (by omega), ?_⟩
      rw [rowOf_succ]
      have hJ1 := hJ.1
      exact hJ.2.snoc (by refine neN ?_; omega) (by omega) q4
    · intro D₂ h' tk' zs hk hD2 hD2' hF
      obtain ⟨T', hT', _, hTok⟩ := hF
      intro _
      refine h D₂ h' tk' zs T' (hk.fr F₇).keep ?_ hD2' hTok hT'
      cases q : s.heap.get? D₂ with
      | none => rfl
      | some o => have := F₇.keep _ _ q; rw [hD2] at this; cases this
end Mine
end RowPart
section LoopTPart
open PySem PySem.W PyProof.Rows PySem.Calls
set_option Elab.async false
set_option maxRecDepth 100000
set_option maxHeartbeats 2000000
namespace Mine
def TurnT (h₀ : Heap) (L : Addr) (s : Shared) (all : List (Addr × Obj)) (J : (Str → Option Value) → Heap → Nat → Prop) (Q : Flow → Shared → Prop) (f : Flow) (s' : Shared) : Prop :=
  match f with
  | .ret v => Q (.ret v) s'
  | .brk => Q .next s'
  | _ => ∃ h' tk m' news', s' = { s with heap := h', toks := tk } ∧ Fr h₀ L h' m' ∧ News h₀ L h' news' ∧ (∀ p ∈ all, p ∈ news') ∧ J m' h' tk
theorem TurnT.next {h₀ : Heap} {L : Addr} {s : Shared} {all news' : List (Addr × Obj)} {J : (Str → Option Value) → Heap → Nat → Prop} {Q : Flow → Shared → Prop} {h' : Heap} {tk : Nat} {m' : Str → Option Value}
    (F : Fr h₀ L h' m') (N : News h₀ L h' news') (hs : ∀ p ∈ all, p ∈ news') (hj : J m' h' tk) : TurnT h₀ L s all J Q .next { s with heap := h', toks := tk } := ⟨h', tk, m', news', rfl, F, N, hs, hj⟩
section
variable {prog : Program} {w : World} {A : Around} {s : Shared} {env : Env} {h₀ : Heap} {m : Str → Option Value} {target : Expr} {body orelse : List Stmt} {I : Addr} {fp wr : List Addr} {n : Nat} {P : Nat → Nat → Value → Heap → Prop} {St : Nat → Heap → Prop} {Q : Flow → Shared → Prop}
theorem for_itr (It : Itr prog w A target I fp wr n P St) (hLf : env.locals ∉ fp) (hwr : ∀ b ∈ wr, h₀.get? b = none) (hst : St 0 s.heap) (F : Fr h₀ env.locals s.heap m)
    (J : Nat → (Str → Option Value) → Heap → Nat → Prop) (hJ : ∀ i m h T h', J i m h T → But wr h h' → J i m h' T) (h0 : J 0 m s.heap s.toks)
    (step : ∀ i v m₁ h₁ T tk₁ all, i < n → P T i v h₁ → J i m₁ h₁ T → T ≤ tk₁ → Fr h₀ env.locals h₁ m₁ → News h₀ env.locals h₁ all → AllOf h₀ env.locals h₁ all → St (i + 1) h₁ →
      wpAny (model prog w) A (assign target env v) (fun _ s₂ => wpAny (model prog w) A (execs body env) (TurnT h₀ env.locals s all (J (i + 1)) Q) (fun _ _ => False) s₂) (fun _ _ => False) { s with heap := h₁, toks := tk₁ })
    (done : ∀ h' T tk m', Fr h₀ env.locals h' m' → J n m' h' T → T ≤ tk → wpAny (model prog w) A (execs orelse env) Q (fun _ _ => False) { s with heap := h', toks := tk }) :
    codeAny (model prog w) A (.forLoop target (.ref I) body orelse env) (fun r s' => match r with | .ok f => Q f s' | .error _ => False) s := by
  have hLw : env.locals ∉ wr := fun h => hLf (It.sub _ h)
  have old : ∀ b o, h₀.get? b = some o → b ∉ wr := fun b o e hb => by rw [hwr b hb] at e; cases e
  refine codeAny_forLoop_any
    (fun k s' => ∃ h' tk m' i, s' = { s with heap := h', toks := tk } ∧ St i h' ∧ Fr h₀ env.locals h' m' ∧ J i m' h' tk ∧ i ≤ n ∧ k = n + 1 - i) ?_ (n + 1)
    ⟨s.heap, s.toks, m, 0, rfl, hst, F, h0, Nat.zero_le _, rfl⟩
  rintro k s' ⟨h', tk, m', i, rfl, hst', F', hJ', hi, rfl⟩
  have next : ∀ h₁ : Heap, But wr h' h₁ → Fr h₀ env.locals h₁ m' ∧ J i m' h₁ tk := fun h₁ hk₁ =>
    ⟨⟨F'.ns.at' fun o e => hk₁ _ o hLw e, fun b o e => hk₁ b o (old b o e) (F'.keep b o e), F'.above⟩, hJ _ _ _ _ _ hJ' hk₁⟩
  by_cases hlt : i < n
  · refine never_noted (wpAny_mono (It.item i { s with heap := h', toks := tk } (fun v s₂ => wpAny (model prog w) A (assign target env v) (fun _ s₂ => wpAny (model prog w) A (execs body env) (fun f s₃ => match f with
          | .next | .cont => ∃ k', k' < n + 1 - i ∧ ∃ h' tk m' i, s₃ = { s with heap := h', toks := tk } ∧ St i h' ∧ Fr h₀ env.locals h' m' ∧ J i m' h' tk ∧ i ≤ n ∧ k' = n + 1 - i
          | .brk => Q .next s₃
          | .ret v => Q (.ret v) s₃) (fun _ _ => False) s₂) (fun _ _ => False) s₂) hlt hst' ?_) (fun r s₁ h₁ => ?_) fun _ _ x => x)
    · intro v h₂ tk₂ htk hP st₂ hB
      obtain ⟨F₂, J₂⟩ := next h₂ hB
      refine wpAny_mono (step i v m' h₂ tk tk₂ (allNews h₀ env.locals h₂) hlt hP J₂ htk F₂ news_all (fun b o e hL h0 => mem_all e hL h0) st₂) (fun _ s₃ h₃ => wpAny_mono h₃ (fun f s₄ h₄ => ?_) fun _ _ x => x) fun _ _ x => x
      have fin : (∃ h' tk m' news', s₄ = { s with heap := h', toks := tk } ∧ Fr h₀ env.locals h' m' ∧ News h₀ env.locals h' news' ∧ (∀ p ∈ allNews h₀ env.locals h₂, p ∈ news') ∧ J (i + 1) m' h' tk) →
          ∃ k', k' < n + 1 - i ∧ ∃ h' tk m' i, s₄ = { s with heap := h', toks := tk } ∧ St i h' ∧ Fr h₀ env.locals h' m' ∧ J i m' h' tk ∧ i ≤ n ∧ k' = n + 1 - i := by
        rintro ⟨h₅, tk₅, m₅, news₅, rfl, F₅, N₅, hs₅, J₅⟩
        have B₅ := but_all F₂ F₅ N₅ hs₅
        exact ⟨n + 1 - (i + 1), by omega, h₅, tk₅, m₅, i + 1, rfl, It.frame _ _ _ st₂ fun b hb o e => B₅ b o (fun q => hLf (by rw [← List.mem_singleton.mp q]; exact hb)) e, F₅, J₅, hlt, rfl⟩
      cases f with
      | ret v => exact h₄
      | brk => exact h₄
      | cont => exact fin h₄
      | next => exact fin h₄
    · cases r with
      | none => exact h₁.elim
      | some v => exact never_noted (wpAny_mono h₁ (fun _ s₂ h₂ => never_noted (wpAny_mono h₂ (fun _ s₃ h₃ => never_noted h₃) fun _ _ x => x)) fun _ _ x => x)
  · have hin : i = n := by omega
    subst hin
    refine never_noted (wpAny_mono (It.done { s with heap := h', toks := tk } (fun s₁ => wpAny (model prog w) A (execs orelse env) Q (fun _ _ => False) s₁) hst' ?_) (fun r s₁ h₁ => ?_) fun _ _ x => x)
    · intro h₂ tk₂ htk hB
      obtain ⟨F₂, J₂⟩ := next h₂ hB
      exact done h₂ tk tk₂ m' F₂ J₂ htk
    · cases r with
      | none => exact never_noted h₁
      | some v => exact h₁.elim

theorem for_rangeT {x : Str} {px : Pos} {r : Addr} {b : Int} {t u v : Tok} (hh : A.handled = none) (hr : IsRange s.heap r 0 b 1 t u v) (hsm : Builtin.Range.small 0 b 1 = true) (hn : Builtin.Range.rangeSize 0 b 1 = ((n : Nat) : Int)) (F : Fr h₀ env.locals s.heap m)
    (hx : env.kindOf x = some .local) (hp : (env.scope.kind == .class || (env.scope.kind == .module && env.locals != env.globals)) = false)
    (J : Nat → (Str → Option Value) → Heap → Nat → Prop) (hJ : ∀ i m h T h', J i m h T → But [env.locals, s.heap.objs.size] h h' → J i m h' T) (h0 : J 0 m s.heap s.toks)
    (step : ∀ i v m₁ h₁ T tk₁ all, i < n → (∃ t, v = .int (i : Int) t) → J i m₁ h₁ T → T ≤ tk₁ → Fr h₀ env.locals h₁ (fun y => if y = x then some v else m₁ y) → News h₀ env.locals h₁ all → AllOf h₀ env.locals h₁ all →
      (∃ o, (s.heap.objs.size, o) ∈ all) →
      wpAny (model prog w) A (execs body env) (TurnT h₀ env.locals s all (J (i + 1)) Q) (fun _ _ => False) { s with heap := h₁, toks := tk₁ })
    (done : ∀ h' T tk m', Fr h₀ env.locals h' m' → J n m' h' T → T ≤ tk → wpAny (model prog w) A (execs orelse env) Q (fun _ _ => False) { s with heap := h', toks := tk }) :
    wpAny (model prog w) A (pyIter (.ref r)) (fun it s₂ => codeAny (model prog w) A (.forLoop (.Name x px) it body orelse env) (fun r s' => match r with | .ok f => Q f s' | .error _ => False) s₂) (fun _ _ => False) s := by
  have up : ∀ c o, s.heap.get? c = some o → (s.heap.push { cls := .type "range_iterator", data := .fields #[rawInt 0, rawInt (Builtin.Range.rangeSize 0 b 1), rawInt 1] }).get? c = some o := fun b o e => Heap.get?_push_of_some _ e
  have hI₀ : h₀.get? s.heap.objs.size = none := next_is_new F
  have hIL : s.heap.objs.size ≠ env.locals := Nat.ne_of_gt F.ns.lt
  refine wpAny_pyIter_range hr hsm ?_
  refine for_itr (h₀ := h₀) (m := m) (Itr.range (n := n) hh) ?_ ?_ ?_ (F.push _) J (fun i m h T h' j B => hJ i m h T h' j (B.mono fun c hc => List.mem_cons_of_mem _ hc)) (hJ _ _ _ _ _ h0 fun c o _ e => up c o e) ?_ ?_
  · intro hm
    exact hIL (List.mem_singleton.mp hm).symm
  · intro c hc
    rw [List.mem_singleton.mp hc]
    exact hI₀
  · show IsRangeIter _ _ _ _ _
    rw [hn]
    simpa using Heap.get?_push_size _ rfl
  · intro i v m₁ h₁ T tk₁ all hi hP hj hT F₁ N₁ ha st
    refine wpAny_assign_Name (wpAny_storeName_local hx F₁.ns (fun h₂ hn₂ hs₂ => ?_) hp)
    refine step i v m₁ h₂ T _ all hi ⟨_, hP⟩ (hJ _ _ _ _ _ hj fun c o hc e => hs₂.extBut c o (fun q => hc (by rw [q]; exact List.mem_cons_self)) e) (Nat.le_succ_of_le hT) (F₁.set hn₂ hs₂) (N₁.set hs₂) (fun c o e hL h0 => ha c o ?_ hL h0) ⟨_, ha _ _ st hIL hI₀⟩
    rw [← hs₂.2 c hL]; exact e
  · intro h' T tk m' F' hj hT
    exact done h' T tk m' F' hj hT
end
end Mine
end LoopTPart
section Pure2Part
open PySem PySem.W PyProof.Rows
set_option Elab.async false
set_option maxRecDepth 100000
namespace Mine
def maxL : List Int → Int
  | [] => 0
  | [a] => a
  | a :: b :: r => max a (maxL (b :: r))
theorem maxL_mem : ∀ (ns : List Int), ns ≠ [] → maxL ns ∈ ns
  | [], h => absurd rfl h
  | [a], _ => by simp [maxL]
  | a :: b :: r, _ => by
    have ih := maxL_mem (b :: r) (by simp)
    rw [maxL]
    rcases Int.le_total a (maxL (b :: r)) with h | h
    · rw [Int.max_eq_right h]; exact List.mem_cons_of_mem _ ih
    · rw [Int.max_eq_left h]; exact List.mem_cons_self
theorem maxL_le : ∀ (ns : List Int) (x : Int), x ∈ ns → x ≤ maxL ns
  | [a], x, h => by rw [List.mem_singleton.mp h, maxL]; exact Int.le_refl _
  | a :: b :: r, x, h => by
    rw [maxL]
    rcases List.mem_cons.mp h with rfl | h
    · omega
    · have := maxL_le (b :: r) x h
      omega
theorem maxL_eq {ns : List Int} {x : Int} (hm : x ∈ ns) (hl : ∀ y ∈ ns, y ≤ x) : x = maxL ns := by
  have h1 := maxL_le ns x hm
  have h2 := hl _ (maxL_mem ns (fun q => by rw [q] at hm; cases hm))
  omega
theorem ints_items : ∀ {vs : List Value} {ns : List Int}, IntsAre vs ns → ∃ xs : List (Int × Tok), vs = xs.map (fun p => Value.int p.1 p.2) ∧ xs.map (fun p => p.1) = ns
  | _, _, .nil => ⟨[], rfl, rfl⟩
  | _, _, .cons n t h => by
    obtain ⟨xs, e1, e2⟩ := ints_items h
    exact ⟨(n, t) :: xs, by rw [e1]; rfl, by rw [List.map_cons, e2]⟩
theorem numAt_list (xs : List (Int × Tok)) (i : Nat) : numAt xs.toArray i = (xs.map (fun p => p.1)).getD i 0 := by
  unfold numAt
  simp [List.getD_eq_getElem?_getD]
theorem preSum_take (ns : List Int) : ∀ k, preSum (fun i => ns.getD i 0) k = (ns.take k).sum
  | 0 => by simp [preSum]
  | k + 1 => by
    rw [preSum, preSum_take ns k]
    by_cases h : k < ns.length
    · rw [List.take_succ_eq_append_getElem h, List.sum_append]
      simp [List.getD_eq_getElem?_getD, h]
    · rw [List.take_of_length_le (by omega), List.take_of_length_le (by omega)]
      simp [List.getD_eq_getElem?_getD, h]
section
variable {prog : Program} {w : World} {A : Around} {E : Value → Shared → Prop} {s : Shared} {l : Addr} {vs : List Value} {ns : List Int} {Q : Value → Shared → Prop}
theorem max_ints (hh : A.handled = none) (hl : s.heap.IsList l vs.toArray) (hi : IntsAre vs ns) (hne : ns ≠ [])
    (h : ∀ (k : Nat) (t : Tok) (h' : Heap) (tk : Nat), vs[k]? = some (Value.int (maxL ns) t) → (∀ b o, s.heap.get? b = some o → h'.get? b = some o) → Q (.int (maxL ns) t) { s with heap := h', toks := tk }) :
    wpAny (model prog w) A (call (.builtin "max") [.ref l]) Q E s := by
  obtain ⟨xs, rfl, rfl⟩ := ints_items hi
  have e : (xs.map (fun p => Value.int p.1 p.2)).toArray = intItems xs.toArray := by simp [intItems]
  have hpos : 0 < xs.length := by
    cases xs with
    | nil => exact absurd rfl hne
    | cons _ _ => exact Nat.succ_pos _
  rw [e] at hl
  refine max_intList hh hl (by simpa using hpos) fun v h' tk hv hk => ?_
  have hb := argBest_gt (numAt xs.toArray) (xs.toArray.size - 1)
  generalize argBest (fun i j => decide (numAt xs.toArray i > numAt xs.toArray j)) (xs.toArray.size - 1) = k at hv hb
  have hkl : k < xs.length := by have := hb.1; rw [List.size_toArray] at this; omega
  obtain ⟨t, rfl⟩ := intItems_at hv
  have hnk : numAt xs.toArray k = maxL (xs.map fun p => p.1) := by
    have hk' : k < (xs.map fun p => p.1).length := by simpa using hkl
    refine maxL_eq ?_ ?_
    · rw [numAt_list, List.getD_eq_getElem?_getD, List.getElem?_eq_getElem hk']
      exact List.getElem_mem hk'
    · intro y hy
      obtain ⟨j, hj, rfl⟩ := List.mem_iff_getElem.mp hy
      have := hb.2 j (by rw [List.size_toArray]; simp at hj; omega)
      rw [numAt_list, List.getD_eq_getElem?_getD, List.getElem?_eq_getElem hj] at this
      exact this
  rw [hnk] at hv ⊢
  refine h k t h' tk ?_ hk
  rw [← e] at hv
  simpa using hv
theorem sum_ints (hh : A.handled = none) (hl : s.heap.IsList l vs.toArray) (hi : IntsAre vs ns) (hb : ∀ n ∈ ns, -1000000000000 ≤ n ∧ n ≤ 1000000000000) (hlen : ns.length ≤ 3)
    (h : ∀ t h' tk, (∀ b o, s.heap.get? b = some o → h'.get? b = some o) → Q (.int ns.sum t) { s with heap := h', toks := tk }) :
    wpAny (model prog w) A (call (.builtin "sum") [.ref l]) Q E s := by
  obtain ⟨xs, rfl, rfl⟩ := ints_items hi
  have e : (xs.map (fun p => Value.int p.1 p.2)).toArray = intItems xs.toArray := by simp [intItems]
  have en : numAt xs.toArray = fun i => (xs.map (fun p => p.1)).getD i 0 := funext (numAt_list xs)
  rw [e] at hl
  generalize hns : xs.map (fun p => p.1) = ns at *
  have hxl : xs.length = ns.length := by rw [← hns, List.length_map]
  have hsum : ∀ k : Nat, -((k : Int) * 1000000000000) ≤ (ns.take k).sum ∧ (ns.take k).sum ≤ ((k : Int) * 1000000000000) := by
    intro k
    induction k with
    | zero => simp
    | succ k ih =>
      by_cases hk : k < ns.length
      · rw [List.take_succ_eq_append_getElem hk, List.sum_append]
        have := hb ns[k] (List.getElem_mem hk)
        simp only [List.sum_cons, List.sum_nil]
        omega
      · rw [List.take_of_length_le (by omega)]
        rw [List.take_of_length_le (by omega)] at ih
        omega
  refine sum_intList hh hl (fun j hj => ?_) fun h' tk t' hk => ?_
  · rw [en]
    have hj' : j < ns.length := by rw [List.size_toArray, hxl] at hj; exact hj
    refine ⟨?_, ?_⟩
    · have := hb ns[j] (List.getElem_mem hj')
      show InLong (ns.getD j 0)
      rw [List.getD_eq_getElem?_getD, List.getElem?_eq_getElem hj']
      unfold InLong
      simp only [Option.getD_some]
      omega
    · rw [preSum_take]
      have := hsum (j + 1)
      unfold InLong
      omega
  · rw [en, preSum_take, List.size_toArray, hxl, List.take_length]
    exact h t' h' tk hk
end
def stepRow (ns : List Int) : List Int := ns.take (ns.idxOf (maxL ns)) ++ [maxL ns - (ns.sum - maxL ns)] ++ ns.drop (ns.idxOf (maxL ns) + 1)
def readGo (letters : Str) : Nat → List Int → Str → List Int × Str
  | 0, ns, rd => (ns, rd)
  | n + 1, ns, rd => readGo letters n (stepRow ns) (rd ++ Txt.item letters ((ns.idxOf (maxL ns) : Nat) : Int))
def readOf (letters : Str) (ns : List Int) (size : Nat) : Str := if (readGo letters size ns (Str.ofString "")).1 = List.replicate letters.length 1 then (readGo letters size ns (Str.ofString "")).2 else Str.ofString ""
theorem idx_lt {ns : List Int} (h : ns ≠ []) : ns.idxOf (maxL ns) < ns.length := List.idxOf_lt_length_of_mem (maxL_mem ns h)
theorem stepRow_length {ns : List Int} (h : ns ≠ []) : (stepRow ns).length = ns.length := by
  have := idx_lt h
  unfold stepRow
  simp only [List.length_append, List.length_take, List.length_drop, List.length_cons, List.length_nil]
  omega
theorem sum_bound {B : Int} : ∀ (ns : List Int), (∀ n ∈ ns, -B ≤ n ∧ n ≤ B) → -((ns.length : Int) * B) ≤ ns.sum ∧ ns.sum ≤ (ns.length : Int) * B
  | [], _ => by simp
  | a :: r, h => by
    have h1 := h a (by simp)
    have ih := sum_bound r (fun n hn => h n (by simp [hn]))
    rw [List.sum_cons, List.length_cons]
    have e : (((r.length + 1 : Nat) : Int)) * B = (r.length : Int) * B + B := by
      rw [Int.natCast_add, Int.add_mul]; simp
    rw [e]
    omega
theorem stepRow_bound {ns : List Int} (h : ns ≠ []) (hl : ns.length ≤ 3) {B : Int} (hB : 0 ≤ B) (hb : ∀ n ∈ ns, -B ≤ n ∧ n ≤ B) : ∀ n ∈ stepRow ns, -(5 * B) ≤ n ∧ n ≤ 5 * B := by
  have hs := sum_bound ns hb
  have hm := hb _ (maxL_mem ns h)
  have h3 : (ns.length : Int) * B ≤ 3 * B := Int.mul_le_mul_of_nonneg_right (by omega) hB
  intro n hn
  unfold stepRow at hn
  rw [List.mem_append, List.mem_append, List.mem_singleton] at hn
  rcases hn with (hn | hn) | hn
  · have := hb n (List.mem_of_mem_take hn); omega
  · omega
  · have := hb n (List.mem_of_mem_drop hn); omega
end Mine
end Pure2Part
section ReadPart
open PySem PySem.W PyProof.Rows PySem.Calls
set_option Elab.async false
set_option maxRecDepth 100000
set_option maxHeartbeats 2000000
namespace Mine
theorem fill7 : ∀ w : World, (fun (_ : OpenLaw) (_ : Frag) => True) PySem.Challenge.rw_pg0079_01 (Mine.hd.heap_39 w.params) := by
  w_top off
  k_fill
  intros
  trivial
local macro_rules | `(tactic| walk_at "mine pad") => `(tactic| skip)
local macro_rules | `(tactic| walk_at "mine enter") => `(tactic| (refine' enter_plain (by assumption) (by assumption) ?k6 ?k7 ?k9 ?kB ?c2 ?c3 ?c4 ?c5 ?_; (case k6 => k_is); (case k7 => k_is); (case k9 => exact BindsTo.of_eq rfl); (case kB => exact locs rfl); (case c2 => exact rfl); (case c3 => exact rfl); (case c4 => exact rfl); (case c5 => decide)))
local macro_rules | `(tactic| walk_at "mine stop") => `(tactic| first
  | (with_reducible show wpAny _ _ (exec (Stmt.For _ _ _ _ _) _) _ _ _)
  | (with_reducible show wpAny _ _ (exec (Stmt.Assign _ (Expr.ListComp _ _ _ _) _) _) _ _ _)
  | (with_reducible show wpAny _ _ (eval (Expr.ListComp _ _ _ _) _) _ _ _)
  | (with_reducible show wpAny _ _ (call (Value.type _) _) _ _ _)
  | (with_reducible show wpAny _ _ (call (Value.builtin "max") _) _ _ _)
  | (with_reducible show wpAny _ _ (call (Value.builtin "sum") _) _ _ _)
  | (with_reducible show wpAny _ _ (call (Value.ref _) _) _ _ _)
  | (with_reducible show wpAny _ _ (subscriptTail _ _ (Value.ref _) (Value.ref _)) _ _ _)
  | (with_reducible show wpAny _ _ (binaryOp _ (Value.ref _) _) _ _ _)
  | (with_reducible show wpAny _ _ (compareOp _ (Value.ref _) _) _ _ _)
  | (with_reducible show Exists _))
local macro_rules | `(tactic| walk_at "mine steps") => `(tactic| repeat' ((fail_if_success (walk_at "mine stop")); first | (k_unfold; (try dsimp only)) | walk1 | (dsimp only; walk1)))
local macro_rules | `(tactic| walk_at "execs cons") => `(tactic| (refine execs_above (by assumption) ?_; intro tk htk; (try dsimp only)))
set_option pp.deepTerms false
set_option pp.deepTerms.threshold 6
theorem still {h₀ h : Heap} {L a : Addr} {m : Str → Option Value} {all : List (Addr × Obj)} {o : Obj} (F : Fr h₀ L h m) (ha : AllOf h₀ L h all) (e : h.get? a = some o) (hL : a ≠ L)
    {h' : Heap} {m' : Str → Option Value} (F' : Fr h₀ L h' m') (N' : News h₀ L h' all) : h'.get? a = some o := by
  cases q : h₀.get? a with
  | none => exact (N' _ (ha a o e hL q)).1
  | some o' =>
    have := F.keep _ _ q
    rw [e] at this
    cases this
    exact F'.keep _ _ q
theorem TokOk.put {vs : List Value} {ns : List Int} {T T' q : Nat} {n : Int} {t : Tok} (h : TokOk vs ns T) (h0 : t ≠ 0) (h1 : T ≤ t) (h2 : t < T') : TokOk (vs.take q ++ [.int n t] ++ vs.drop (q + 1)) (ns.take q ++ [n] ++ ns.drop (q + 1)) T' where
  are := ((h.are.take q).append (.cons _ _ .nil)).append (h.are.drop (q + 1))
  nz := fun v hv => by
    rcases List.mem_append.mp hv with hv | hv
    · rcases List.mem_append.mp hv with hv | hv
      · exact h.nz v (List.mem_of_mem_take hv)
      · rw [List.mem_singleton.mp hv]; exact h0
    · exact h.nz v (List.mem_of_mem_drop hv)
  lt := fun v hv => by
    rcases List.mem_append.mp hv with hv | hv
    · rcases List.mem_append.mp hv with hv | hv
      · exact Nat.lt_trans (h.lt v (List.mem_of_mem_take hv)) (Nat.lt_of_le_of_lt h1 h2)
      · rw [List.mem_singleton.mp hv]; exact h2
    · exact Nat.lt_trans (h.lt v (List.mem_of_mem_drop hv)) (Nat.lt_of_le_of_lt h1 h2)
  ne := by
    have e : vs.take (q + 1) ++ vs.drop (q + 1) = vs := List.take_append_drop _ _
    have hp := h.ne
    rw [← e, List.pairwise_append] at hp
    refine List.pairwise_append.mpr ⟨List.pairwise_append.mpr ⟨?_, List.pairwise_singleton _ _, fun a ha b hb => ?_⟩, hp.2.1, fun a ha b hb => ?_⟩
    · exact h.ne.sublist (List.take_sublist _ _)
    · rw [List.mem_singleton.mp hb]
      exact Nat.ne_of_lt (Nat.lt_of_lt_of_le (h.lt a (List.mem_of_mem_take ha)) h1)
    · rcases List.mem_append.mp ha with ha | ha
      · refine hp.2.2 a ?_ b hb
        exact (List.take_sublist_take_left (Nat.le_succ q)).subset ha
      · rw [List.mem_singleton.mp ha]
        exact Nat.ne_of_gt (Nat.lt_of_lt_of_le (h.lt b (List.mem_of_mem_drop hb)) h1)
theorem read_spec {w : World} {A : Around} {s : Shared} {lr : Addr} {vs : List Value} {ns : List Int} {T₀ : Nat} {letters : Str} {tl : Tok} {size : Nat} {tz : Tok} {Q : Value → Shared → Prop} (G : Gnd w s.heap) (hr : Room A (9 + 1))
   (hk3 : letters.length ≤ 3) (hk1 : 1 ≤ letters.length) (hsz : size ≤ 5)
   (hl : s.heap.IsList lr vs.toArray) (htok : TokOk vs ns T₀) (hT₀ : T₀ ≤ s.toks) (hln : ns.length = letters.length) (hb : ∀ n ∈ ns, -10000 ≤ n ∧ n ≤ 10000)
   (h : ∀ t, Ret s Q (.str (readOf letters ns size) t)) :
   wpAny (model Pg w) A (call (.ref 85) [.ref lr, .str letters tl, .int (size : Int) tz]) Q (fun _ _ => False) s := by
  walk_at "mine enter"
  have G₀ := G
  obtain ⟨X, mean, mg, mb, T⟩ := G
  intro L h₁ dp fr gd un F hr'
  have N : News s.heap L h₁ [] := News.nil
  try dsimp only
  have hab : Above T₀ (s.toks + 3) := ⟨Nat.le_trans hT₀ (Nat.le_add_right _ _)⟩
  refine execs_above hab ?_
  intro tk₂ htk₂
  dsimp only
  walk_at "mine steps"
  refine For_mine ?_
  walk_at "mine steps"
  rename Fr _ _ _ _ => F₂
  rename Above _ _ => htk₃
  refine call_range_1 ?_
  dsimp only
  have hsm : Builtin.Range.small 0 ((size : Nat) : Int) 1 = true ∧ Builtin.Range.rangeSize 0 ((size : Nat) : Int) 1 = ((size : Nat) : Int) := by
    have : size = 0 ∨ size = 1 ∨ size = 2 ∨ size = 3 ∨ size = 4 ∨ size = 5 := by omega
    rcases this with e | e | e | e | e | e <;> rw [e] <;> exact ⟨by decide, by decide⟩
  have hlr : lr < s.heap.objs.size := by obtain ⟨_, e, _⟩ := hl; exact Heap.lt_size e
  have hlrL : lr ≠ L := Nat.ne_of_lt (Nat.lt_of_lt_of_le hlr F₂.above)
  have hne : ns ≠ [] := by intro q; rw [q] at hln; simp at hln; omega
  rename_i h₂ N₂ _ tk₃
  clear N₂
  refine' for_rangeT (h₀ := s.heap) (n := size) (J := fun i m h T => ∃ (lr : Addr) (vs : List Value) (ns' : List Int) (rd : Str) (t : Tok), m (Str.ofString "row") = some (.ref lr) ∧ m (Str.ofString "letters") = some (.str letters tl) ∧ m (Str.ofString "read") = some (.str rd t) ∧
      h.IsList lr vs.toArray ∧ lr ≠ L ∧ lr ≠ h₂.objs.size + 1 ∧ TokOk vs ns' T ∧ ns'.length = letters.length ∧ rd.length ≤ i ∧ (∀ n ∈ ns', -(10000 * 5 ^ i) ≤ n ∧ n ≤ 10000 * 5 ^ i) ∧
      readGo letters size ns (Str.ofString "") = readGo letters (size - i) ns' rd) ?q1 ?q2 ?q3 ?q4 ?q5 ?q6 ?q7 ?q8 ?q9 ?q10 ?q11
  case q1 => rfl
  case q2 => exact IsRange.new ..
  case q3 => exact hsm.1
  case q4 => exact hsm.2
  case q5 => exact F₂.push _
  case q6 => rfl
  case q7 => rfl
  case q8 =>
    rintro i m h T h' ⟨lr, vs, ns', rd, t, e1, e2, e3, e4, e5, e6, e7, e8, e9, e10, e11⟩ B
    refine ⟨lr, vs, ns', rd, t, e1, e2, e3, e4.at fun o e => B _ o ?_ e, e5, e6, e7, e8, e9, e10, e11⟩
    intro hm
    rcases List.mem_cons.mp hm with q | hm
    · exact e5 q
    · refine e6 ((List.mem_singleton.mp hm).trans ?_)
      exact Heap.size_push ..
  case q9 =>
    refine ⟨lr, vs, ns, Str.ofString "", _, by rfl, by rfl, by rfl, hl.at fun o e => Heap.get?_push_of_some _ (F₂.keep _ o e), hlrL, ?_, ?_, hln, ?_, ?_, rfl⟩
    · have h3 : s.heap.objs.size ≤ h₂.objs.size := Nat.le_of_lt (Nat.lt_of_le_of_lt F₂.above F₂.ns.lt)
      exact Nat.ne_of_lt (Nat.lt_of_lt_of_le hlr (Nat.le_trans h3 (Nat.le_succ _)))
    · exact ⟨htok.are, htok.nz, fun v hv => Nat.lt_of_lt_of_le (htok.lt v hv) (Nat.le_trans htk₃.le (by show _ ≤ tk₃ + 1 + 1; omega)), htok.ne⟩
    · have : (Str.ofString "").length = 0 := by decide +kernel
      omega
    · simpa using hb
  case q10 =>
    rintro i v m₁ h₃ T₃ tk₄ all hi ⟨tv, rfl⟩ ⟨lr, vs, ns', rd, t, e1, e2, e3, e4, e5, e6, e7, e8, e9, e10, e11⟩ hT F₃ N₃ hall ⟨oI, hoI⟩
    replace F₃ := know (know (know F₃ (y := Str.ofString "row") e1) (y := Str.ofString "letters") e2) (y := Str.ofString "read") e3
    have hne' : ns' ≠ [] := by intro q; rw [q] at e8; simp at e8; omega
    clear F₂ htk₃ hab htk₂
    have hT' : Above T₃ tk₄ := ⟨hT⟩
    have st : ∀ {h' : Heap} {m' : Str → Option Value}, Fr s.heap L h' m' → News s.heap L h' all → h'.IsList lr vs.toArray := fun F' N' => e4.at fun o e => still F₃ hall e e5 F' N'
    have hB : (0 : Int) ≤ 10000 * 5 ^ i ∧ (10000 * 5 ^ i : Int) ≤ 40000000 := by
      have : i = 0 ∨ i = 1 ∨ i = 2 ∨ i = 3 ∨ i = 4 ∨ i = 5 := by omega
      rcases this with e | e | e | e | e | e <;> rw [e] <;> decide
    have hlen3 : ns'.length ≤ 3 := by omega
    have hpl : ns'.idxOf (maxL ns') < letters.length := by have := idx_lt hne'; omega
    clear hall e4
    walk_at "mine steps"
    refine max_ints rfl (st F₃ N₃) e7.are hne' ?_
    intro k tm h₄ tk₅ hkm hk₄
    have F₄ := F₃.keeps hk₄
    have N₄ := N₃.grown hk₄
    clear F₃ N₃
    generalize hmx : maxL ns' = mx at *
    walk_at "mine steps"
    rename Fr _ _ _ _ => F₅
    rename News _ _ _ _ => N₅
    refine indexOf_spec (G₀.keeps F₅.keep) (hr'.less (by decide)) (st F₅ N₅) e7 hkm ?_
    intro t₅ h₆ tk₆ hk₆
    have F₆ := F₅.keeps hk₆
    have N₆ := N₅.grown hk₆
    clear F₅ N₅
    walk_at "mine steps"
    rename Fr _ _ _ _ => F₇
    rename News _ _ _ _ => N₇
    refine sum_ints rfl (st F₇ N₇) e7.are (fun n hn => ?_) hlen3 ?_
    · have := e10 n hn
      omega
    intro t₇ h₈ tk₈ hk₈
    have F₈ := F₇.keeps hk₈
    have N₈ := N₇.grown hk₈
    clear F₇ N₇
    walk_at "mine steps"
    refine use_sub G₀ F₈ N₈ (hr'.less (by decide)) ?_
    intro t₉ h₉ tk₉ F₉ N₉ _ _
    clear F₈ N₈
    walk_at "mine steps"
    rename Fr _ _ _ _ => F₁₀
    rename News _ _ _ _ => N₁₀
    rename_i h₁₀ _ tk₁₀ htk₁₀
    have hvl : vs.length = ns'.length := e7.are.length
    refine slice_list (s := ⟨h₁₀, s.gens, s.drawn, tk₁₀, s.os⟩) (lo := none) (hi := some ((ns'.idxOf mx : Nat) : Int)) F₁₀ N₁₀ (st F₁₀ N₁₀) (by constructor) (by constructor) ?_ (by with_unfolding_all rfl) (by intro _; with_unfolding_all rfl) ?_
    rotate_left
    · rw [List.size_toArray, hvl, sizeLine]; omega
    intro h₁₁ F₁₁ N₁₁
    dsimp only
    rw [show slicePick vs.toArray none (some ((ns'.idxOf mx : Nat) : Int)) none = (vs.take (ns'.idxOf mx)).toArray from slicePick_upto' _ _] at N₁₁
    generalize hq : ns'.idxOf mx = q at *
    clear F₁₀ N₁₀
    dsimp only at N₁₁
    walk_at "mine steps"
    refine use_sub G₀ F₁₁ N₁₁ (hr'.less (by decide)) ?_
    intro tn h₁₂ tk₁₂ F₁₂ N₁₂ htn1 htn2
    dsimp only at htn1
    clear F₁₁ N₁₁
    walk_at "mine steps"
    rename Fr _ _ _ _ => F₁₃
    rename News _ _ _ _ => N₁₃
    refine add_lists F₁₃ N₁₃ (vs := vs.take q) (ws := [.int (mx - (ns'.sum - mx)) tn]) ⟨_, (N₁₃ _ (.tail _ (.head _))).1, rfl, _, rfl⟩ ⟨_, (N₁₃ _ (.head _)).1, rfl, _, rfl⟩ ?_ ?_
    rotate_left
    · rw [sizeLine, List.length_take]; simp; omega
    intro h₁₄ F₁₄ N₁₄
    clear F₁₃ N₁₃
    dsimp only at N₁₄ ⊢
    walk_at "mine steps"
    rename Fr _ _ _ _ => F₁₅
    rename News _ _ _ _ => N₁₅
    refine' slice_list (s := ⟨_, _, _, _, _⟩) (lo := some (((q + 1 : Nat)) : Int)) (hi := none) F₁₅ N₁₅ (st F₁₅ (N₁₅.perm fun p hp => .tail _ (.tail _ (.tail _ hp)))) (by constructor) (by constructor) ?_ (by with_unfolding_all rfl) (by intro _; with_unfolding_all rfl) ?_
    rotate_left
    · rw [List.size_toArray, hvl, sizeLine]; omega
    intro h₁₆ F₁₆ N₁₆
    rw [show slicePick vs.toArray (some ((q + 1 : Nat) : Int)) none none = (vs.drop (q + 1)).toArray from slicePick_from' _ _] at N₁₆
    clear F₁₅ N₁₅
    dsimp only at N₁₆ ⊢
    walk_at "mine steps"
    refine add_lists F₁₆ N₁₆ (vs := vs.take q ++ [.int (mx - (ns'.sum - mx)) tn]) (ws := vs.drop (q + 1)) ⟨_, (N₁₆ _ (.tail _ (.head _))).1, rfl, _, rfl⟩ ⟨_, (N₁₆ _ (.head _)).1, rfl, _, rfl⟩ ?_ ?_
    rotate_left
    · rw [sizeLine, List.length_append, List.length_take, List.length_drop]; simp; omega
    intro h₁₇ F₁₇ N₁₇
    have hneL : h₁₆.objs.size ≠ L := Nat.ne_of_gt F₁₆.ns.lt
    have hneI : h₁₆.objs.size ≠ h₂.objs.size + 1 := by
      refine fun q => N₁₆.fresh_ne _ (.tail _ (.tail _ (.tail _ (.tail _ hoI)))) (q.trans ?_)
      exact (Heap.size_push ..).symm
    clear F₁₆ N₁₆
    dsimp only at N₁₇ ⊢
    walk1
    walk1
    refine execs_above (n := tn + 1) ⟨by show _ ≤ tk₁₂ + 1 + 1 + 1; omega⟩ ?_
    intro tk₁₈ htk₁₈
    dsimp only
    walk_at "mine steps"
    rename Fr _ _ _ _ => F₁₈
    rename News _ _ _ _ => N₁₈
    rename 1 ≤ (Txt.item letters ↑q).length ∧ (Txt.item letters ↑q).length ≤ 1 => hil
    refine use_concat G₀ F₁₈ N₁₈ (hr'.less (by decide)) ?_ ?_
    · rw [sizeLine]; omega
    intro t₁₉ h₁₉ tk₁₉ F₁₉ N₁₉
    clear F₁₈ N₁₈
    walk1
    intro hfin
    refine wpAny_execs_nil ?_
    rename Fr _ _ _ _ => F₂₀
    rename News _ _ _ _ => N₂₀
    have hT3 : 1 ≤ T₃ := by
      obtain ⟨v, hv⟩ : ∃ v, v ∈ vs := ⟨_, List.mem_of_getElem? hkm⟩
      exact Nat.lt_of_le_of_lt (Nat.zero_le _) (e7.lt v hv)
    refine TurnT.next F₂₀ N₂₀ (fun p hp => .tail _ (.tail _ (.tail _ (.tail _ (.tail _ hp))))) ⟨h₁₆.objs.size, vs.take q ++ [.int (mx - (ns'.sum - mx)) tn] ++ vs.drop (q + 1), stepRow ns', rd ++ Txt.item letters ((q : Nat) : Int), _, by rfl, by rfl, by rfl, ⟨_, (N₂₀ _ (.head _)).1, rfl, _, rfl⟩, hneL, hneI, ?_, ?_, ?_, ?_, ?_⟩
    · unfold stepRow
      rw [hmx, hq]
      exact e7.put (by refine neN ?_; have := htk₁₀.le; omega) (Nat.le_trans htk₁₀.le htn1) (Nat.lt_of_lt_of_le (Nat.lt_succ_self _) hfin.le)
    · rw [stepRow_length hne', e8]
    · rw [Str.length_append]; omega
    · have := stepRow_bound hne' hlen3 hB.1 e10
      intro n hn
      have h5 := this n hn
      have e5 : (10000 * 5 ^ (i + 1) : Int) = 5 * (10000 * 5 ^ i) := by rw [Int.pow_succ]; omega
      rw [e5]
      exact h5
    · rw [e11, show size - i = (size - (i + 1)) + 1 by omega, readGo, hmx, hq]
  case q11 =>
    rintro h' T tk m' F' ⟨lr, vs, ns', rd, t, e1, e2, e3, e4, e5, e6, e7, e8, e9, e10, e11⟩ hT
    replace F' := know (know (know F' (y := Str.ofString "row") e1) (y := Str.ofString "letters") e2) (y := Str.ofString "read") e3
    obtain ⟨all, N', hall⟩ : ∃ all, News s.heap L h' all ∧ AllOf s.heap L h' all := ⟨_, news_all, fun b o e hL h0 => mem_all e hL h0⟩
    have st : ∀ {h'' : Heap} {m' : Str → Option Value}, Fr s.heap L h'' m' → News s.heap L h'' all → h''.IsList lr vs.toArray := fun F'' N'' => e4.at fun o e => still F' hall e e5 F'' N''
    clear F₂ htk₃ hab htk₂ hall e4
    have hT' : Above T tk := ⟨hT⟩
    walk_at "mine steps"
    rename Fr _ _ _ _ => F₃
    rename News _ _ _ _ => N₃
    refine' mul_list F₃ N₃ (items := _) (k := 0) ?b1 ?b2 ?b3 ?b4 ?b5
    case b1 => exact (N₃ _ (.head _)).1
    case b2 => omega
    case b3 => omega
    case b4 => simp; omega
    intro h₄ F₄ N₄
    dsimp only at N₄ ⊢
    clear F₃ N₃
    have hones : ∀ v : Value, (List.foldl (fun x1 x2 => x1 ++ x2) #[] (List.replicate (if (#[v] : Array Value).isEmpty = true then 0 else (letters.length : Int).toNat) #[v])) = (List.replicate letters.length v).toArray := by
      intro v
      have : letters.length = 1 ∨ letters.length = 2 ∨ letters.length = 3 := by omega
      rcases this with e | e | e <;> rw [e] <;> rfl
    rw [hones] at N₄
    have hrep : ∀ k (t : Tok), IntsAre (List.replicate k (.int 1 t)) (List.replicate k 1) := by
      intro k t
      induction k with
      | zero => exact .nil
      | succ k ih => exact .cons 1 t ih
    refine eq_intsK (st F₄ (N₄.perm fun p hp => .tail _ (.tail _ hp))) e7.are ⟨_, (N₄ _ (.head _)).1, rfl, _, rfl⟩ (hrep _ _) ?_ ?_
    · have := hr'.un
      show un + 64 < cLine
      dsimp only at this
      omega
    rw [Nat.sub_self] at e11
    walk_at "mine steps"
    · rename ns' = List.replicate letters.length 1 => hb1
      have e : readOf letters ns size = rd := by
        unfold readOf
        rw [e11, readGo, if_pos hb1]
      rw [e] at h
      exact h _ _ _ F₄.keep
    · rename ¬ ns' = List.replicate letters.length 1 => hb1
      have e : readOf letters ns size = Str.ofString "" := by
        unfold readOf
        rw [e11, readGo, if_neg hb1]
      rw [e] at h
      exact h _ _ _ F₄.keep
end Mine
end ReadPart
section Comp3Part
open PySem PySem.W PyProof.Rows PySem.Calls
set_option Elab.async false
set_option maxRecDepth 100000
set_option maxHeartbeats 2000000
namespace Mine
/-- the second clause's start -/
def secondOf (iter2 : Expr) (e : Expr) (acc : Value) (env : Env) : Sem Unit := do
  let x ← eval iter2 env
  standAt iter2.pos
  let x ← foldedSetIterable iter2 env x
  let it ← holding [x] (pyIter x)
  let _ ← runOwn (.compStart e 1 it acc env) env
theorem compTurn_first (elt target iter target2 iter2 : Expr) (scope : Scope) (pos : Pos) (I : Addr) (acc : Value) (env : Env) :
    compTurn (.ListComp elt [⟨target, iter, [], 0⟩, ⟨target2, iter2, [], 0⟩] scope pos) 0 (.ref I) acc env = (standAt iter.pos >>= fun _ => pyNext (.ref I) >>= fun r => match r with
      | none => pure (.done .next)
      | some v => letOwnedTupleGo target (.ref I) v >>= fun _ => assign target env v >>= fun _ => secondOf iter2 (.ListComp elt [⟨target, iter, [], 0⟩, ⟨target2, iter2, [], 0⟩] scope pos) acc env >>= fun _ =>
        again (.compLoop (.ListComp elt [⟨target, iter, [], 0⟩, ⟨target2, iter2, [], 0⟩] scope pos) 0 (.ref I) acc env)) := by
  have e : (secondOf iter2 (.ListComp elt [⟨target, iter, [], 0⟩, ⟨target2, iter2, [], 0⟩] scope pos) acc env >>= fun _ => again (.compLoop (.ListComp elt [⟨target, iter, [], 0⟩, ⟨target2, iter2, [], 0⟩] scope pos) 0 (.ref I) acc env)) =
      (eval iter2 env >>= fun x => standAt iter2.pos >>= fun _ => foldedSetIterable iter2 env x >>= fun x => holding [x] (pyIter x) >>= fun it => runOwn (.compStart (.ListComp elt [⟨target, iter, [], 0⟩, ⟨target2, iter2, [], 0⟩] scope pos) 1 it acc env) env >>= fun _ =>
        again (.compLoop (.ListComp elt [⟨target, iter, [], 0⟩, ⟨target2, iter2, [], 0⟩] scope pos) 0 (.ref I) acc env)) := by
    unfold secondOf
    simp only [bind_assoc, pure_bind]
  simp only [e]
  rfl
theorem compTurn_second (elt target iter target2 iter2 : Expr) (scope : Scope) (pos : Pos) (I : Addr) (acc : Value) (env : Env) :
    compTurn (.ListComp elt [⟨target, iter, [], 0⟩, ⟨target2, iter2, [], 0⟩] scope pos) 1 (.ref I) acc env = (standAt iter2.pos >>= fun _ => pyNext (.ref I) >>= fun r => match r with
      | none => pure (.done .next)
      | some v => letOwnedTupleGo target2 (.ref I) v >>= fun _ => assign target2 env v >>= fun _ => emitOf elt acc env >>= fun _ =>
        again (.compLoop (.ListComp elt [⟨target, iter, [], 0⟩, ⟨target2, iter2, [], 0⟩] scope pos) 1 (.ref I) acc env)) := rfl
section
variable {prog : Program} {w : World} {A : Around} {s : Shared} {R : Result → Shared → Prop}
theorem compStart_second {elt target iter target2 iter2 : Expr} {scope : Scope} {pos : Pos} {it acc : Value} {env : Env}
    (h0 : codeAny (model prog w) A (.compLoop (.ListComp elt [⟨target, iter, [], 0⟩, ⟨target2, iter2, [], 0⟩] scope pos) 1 it acc env) R s)
    (h : wpAny (model prog w) A (pyIter it) (fun it' s' => codeAny (model prog w) A (.compLoop (.ListComp elt [⟨target, iter, [], 0⟩, ⟨target2, iter2, [], 0⟩] scope pos) 1 it' acc env) R s')
      (notedBy (model prog w) A env fun x s' => R (.error x) s') s) :
    codeAny (model prog w) A (.compStart (.ListComp elt [⟨target, iter, [], 0⟩, ⟨target2, iter2, [], 0⟩] scope pos) 1 it acc env) R s := by
  refine codeAny_of_tree (wpAny_notedAt (m := compStart (.ListComp elt [⟨target, iter, [], 0⟩, ⟨target2, iter2, [], 0⟩] scope pos) 1 it acc env) (env := env) ?_)
  unfold compStart
  show wpAny _ _ (ask >>= _) _ _ s
  refine wpAny_bind (wpAny_askSetting (wpAny_ite ?_))
  split
  · first
      | exact wpAny_bind (wpAny_pure (wpAny_pure ⟨rfl, h0⟩))
      | exact wpAny_pure ⟨rfl, h0⟩
  · refine wpAny_bind (wpAny_rule ?_)
    show wpAny _ _ (standAt iter2.pos >>= _) _ _ s
    exact wpAny_bind (wpAny_standAt (wpAny_bind (wpAny_mono h (fun it' s' h' => wpAny_pure (And.intro rfl h')) fun _ _ x => x)))
end

section
variable {prog : Program} {w : World} {A : Around} {s : Shared} {m : Str → Option Value} {env : Env} {elt iter iter2 : Expr} {scope : Scope} {cl : List (Str × Addr)} {pos : Pos} {h₂ : Heap} {tk₂ : Nat}

/-- over a list and, within, over a text's signs -/
theorem comp_two {x y : Str} {px py : Pos} {l : Addr} {items : Array Value} {letters : Str} {tl : Tok} (hh : A.handled = none) (hn : s.heap.Ns env.locals m) (hk₂ : Kp env.locals m s.heap h₂) (hl : h₂.IsList l items) (hlL : l ≠ env.locals)
    (hx : scope.names.lookup x = some .local) (hy : scope.names.lookup y = some .local) (hxy : x ≠ y) (hkind : scope.kind = .function)
    (J : Nat → Nat → List Value → Prop) (J0 : J 0 0 []) (J1 : ∀ i ys, i < items.size → J i letters.cps.size ys → J (i + 1) 0 ys) (Jl : ∀ i j ys, i < items.size → j < letters.cps.size → J i j ys → ys.length ≤ sizeLine)
    (hs : ∀ e v, foldedSetIterable iter2 e v = pure v)
    (hit : ∀ h₁ tk₁ C m₂ (Q : Value → Shared → Prop), Kp env.locals m s.heap h₁ → h₁.Ns C m₂ → s.heap.get? C = none → (∀ tk, Q (.str letters tl) { s with heap := h₁, toks := tk }) → wpAny (model prog w) A (eval iter2 (compEnvC scope cl C env)) Q (fun _ _ => False) { s with heap := h₁, toks := tk₁ })
    (step : ∀ i j xv yv h₁ tk₁ ys C m₂, i < items.size → j < letters.cps.size → J i j ys → items[i]? = some xv → SignAt letters j yv → m₂ x = some xv → m₂ y = some yv → Kp env.locals m s.heap h₁ → h₁.Ns C m₂ → s.heap.get? C = none →
      wpAny (model prog w) A (eval elt (compEnvC scope cl C env)) (fun y s' => ∃ h' tk', s' = { s with heap := h', toks := tk' } ∧ Kp env.locals m h₁ h' ∧ J i (j + 1) (ys ++ [y])) (fun _ _ => False) { s with heap := h₁, toks := tk₁ }) :
    wpAny (model prog w) A (pyIter (.ref l)) (CompSt prog w A s m env elt [⟨.Name x px, iter, [], 0⟩, ⟨.Name y py, iter2, [], 0⟩] scope cl pos (fun ys _ => J items.size 0 ys)) (fun _ _ => False) { s with heap := h₂, toks := tk₂ } := by
  have hlt : l < h₂.objs.size := by obtain ⟨_, e, _⟩ := hl; exact Heap.lt_size e
  have up : ∀ b o, h₂.get? b = some o → (h₂.push { cls := .type "list_iterator", data := .fields #[.ref l, .int 0 0] }).get? b = some o := fun b o e => Heap.get?_push_of_some _ e
  have hI := comp_fresh hn hk₂ (Nat.le_refl _)
  refine wpAny_pyIter_list hl ?_
  have hk₃ : Kp env.locals m s.heap (h₂.push { cls := .type "list_iterator", data := .fields #[.ref l, .int 0 0] }) := hk₂.trans (.of hk₂.ns up)
  have W := Walks.list (prog := prog) (w := w) (A := A) hh h₂.objs.size l (Nat.ne_of_lt hlt) items
  have It := Itr.ofWalks (x := x) (px := px) W
  have hst : h₂.push { cls := .type "list_iterator", data := .fields #[.ref l, .int 0 0] } |>.IsListIter h₂.objs.size l 0 := ⟨_, Heap.get?_push_size _ rfl, rfl, rfl⟩
  have hst2 := hl.push { cls := .type "list_iterator", data := .fields #[.ref l, .int 0 0] }
  have hsz3 : (h₂.push { cls := .type "list_iterator", data := .fields #[.ref l, .int 0 0] }).objs.size = h₂.objs.size + 1 := Heap.size_push ..
  generalize h₂.push { cls := .type "list_iterator", data := .fields #[.ref l, .int 0 0] } = h₃ at *
  generalize h₂.objs.size = I at *
  have hIlt : I < h₃.objs.size := by rw [hsz3]; exact Nat.lt_succ_self _
  have hllt : l < h₃.objs.size := Nat.lt_trans hlt hIlt
  have hfp : ∀ b ∈ [I, l], b < h₃.objs.size := by
    intro b hb
    rcases List.mem_cons.mp hb with rfl | hb
    · exact hIlt
    · rw [List.mem_singleton.mp hb]; exact hllt
  have hIL : I ≠ env.locals := ns_there hn hI
  have hLf : env.locals ∉ [I, l] := by
    intro hb
    rcases List.mem_cons.mp hb with q | q
    · exact hIL q.symm
    · exact hlL (List.mem_singleton.mp q).symm
  have hLw : env.locals ∉ [I] := fun q => hIL (List.mem_singleton.mp q).symm
  have hwr : ∀ b ∈ [I], s.heap.get? b = none := fun b hb => by rw [List.mem_singleton.mp hb]; exact hI
  refine ⟨I, h₃, tk₂, rfl, rfl, hk₃, fun s' hs' Q E q => It.self 0 s' Q E (It.frame _ _ _ ⟨hst, hst2⟩ fun b _ o e => hs' b o e) q, ?_⟩
  rintro D C h₁ tk₁ hDe hCe old hD hC htk
  have hDf : D ∉ [I, l] := fun hm => Nat.lt_irrefl _ (hDe ▸ hfp _ hm)
  have hCf : C ∉ [I, l] := fun hm => absurd (hfp _ hm) (by rw [hCe]; exact Nat.not_lt.mpr (Nat.le_succ _))
  have hDw : D ∉ [I] := fun hm => hDf (It.sub _ hm)
  have hCw : C ∉ [I] := fun hm => hCf (It.sub _ hm)
  have hD₀ : s.heap.get? D = none := comp_fresh hn hk₃ (Nat.le_of_eq hDe.symm)
  have hC₀ : s.heap.get? C = none := comp_fresh hn hk₃ (by rw [hCe]; exact Nat.le_succ _)
  have hDL := ns_there hn hD₀
  have hCL := ns_there hn hC₀
  have hDC : D ≠ C := by rw [hDe, hCe]; exact Nat.ne_of_lt (Nat.lt_succ_self _)
  have kst : ∀ {i : Nat} {h h' : Heap}, (h.IsListIter I l i ∧ h.IsList l items) → Kp env.locals m h h' → (h'.IsListIter I l i ∧ h'.IsList l items) := fun st k => It.frame _ _ _ st fun b hb o e => k.at (fun q => hLf (q ▸ hb)) e
  refine comp_loop It (compTurn_first ..)
    (fun i h T => Kp env.locals m s.heap h ∧ ∃ ys m', J i 0 ys ∧ h.get? D = some (LCg.lst ys) ∧ h.Ns C m') ?_
    ⟨hk₃.trans (.of hk₃.ns old), [], _, J0, hD, hC⟩ (It.frame _ _ _ ⟨hst, hst2⟩ fun b _ o e => old b o e) ?_ ?_
  · rintro i h T h' ⟨k, ys, m', hJ, hD', hC'⟩ B
    exact ⟨⟨fun b o hb e => B b o (fun q => by rw [hwr b q] at e; cases e) (k.but b o hb e), k.ns.at' fun o e => B _ o hLw e⟩, ys, m', hJ, B _ _ hDw hD', hC'.at' fun o e => B _ o hCw e⟩
  · rintro i v h₄ T tk₄ hi ⟨k, ys, m', hJ, hD', hC'⟩ hP hT st
    refine asg_name hx hkind hC' fun h₅ tk₅ hn₅ but₅ _ => ?_
    have k₅ : Kp env.locals m s.heap h₅ := ⟨fun b o hb e => but₅ b o (fun q => by rw [List.mem_singleton.mp q, hC₀] at e; cases e) (k.but b o hb e), k.ns.at' fun o e => but₅ _ o (fun q => hCL (List.mem_singleton.mp q).symm) e⟩
    have D₅ : h₅.get? D = some (LCg.lst ys) := but₅ _ _ (fun q => hDC (List.mem_singleton.mp q)) hD'
    have st₅ : h₅.IsListIter I l (i + 1) ∧ h₅.IsList l items := It.frame _ _ _ st fun b hb o e => but₅ b o (fun q => hCf (by rw [← List.mem_singleton.mp q]; exact hb)) e
    unfold secondOf
    refine wpAny_bind (hit h₅ tk₅ C _ _ k₅ hn₅ hC₀ fun tk₆ => ?_)
    refine wpAny_bind (wpAny_standAt ?_)
    rw [hs]
    refine wpAny_bind (wpAny_pure ?_)
    refine wpAny_bind (wpAny_holding (wpAny_pyIter_str fun o St2 hW hs2 => ?_))
    refine wpAny_bind (wpAny_runOwn ?_)
    have up5 : ∀ b o', h₅.get? b = some o' → (h₅.push o).get? b = some o' := fun b o' e => Heap.get?_push_of_some _ e
    have hI2 : s.heap.get? h₅.objs.size = none := comp_fresh hn k₅ (Nat.le_refl _)
    have It2 := Itr.ofWalks (x := y) (px := py) (hW A hh)
    have D2 : D ≠ h₅.objs.size := Nat.ne_of_lt (Heap.lt_size D₅)
    have C2 : C ≠ h₅.objs.size := Nat.ne_of_lt hn₅.lt
    have L2 : env.locals ≠ h₅.objs.size := Nat.ne_of_lt k₅.ns.lt
    have f2 : ∀ b ∈ [I, l], b ≠ h₅.objs.size := by
      intro b hb
      have : h₃.objs.size < h₅.objs.size := hDe ▸ Heap.lt_size D₅
      exact Nat.ne_of_lt (Nat.lt_trans (hfp b hb) this)
    dsimp only at It2 hs2 ⊢
    generalize h₅.objs.size = I2 at *
    generalize h₅.push o = h₆ at *
    have main : codeAny (model prog w) A (.compLoop (.ListComp elt [⟨.Name x px, iter, [], 0⟩, ⟨.Name y py, iter2, [], 0⟩] scope pos) 1 (.ref I2) (.ref D) (compEnvC scope cl C env)) (fun r s' => match r with
        | .error _ => False
        | .ok _ => ∃ h' tk' ys m', s' = { s with heap := h', toks := tk' } ∧ Kp env.locals m s.heap h' ∧ (h'.IsListIter I l (i + 1) ∧ h'.IsList l items) ∧ J i letters.cps.size ys ∧ h'.get? D = some (LCg.lst ys) ∧ h'.Ns C m') { s with heap := h₆, toks := tk₆ } := by
      refine comp_loop It2 (compTurn_second ..)
        (fun j h T => Kp env.locals m s.heap h ∧ (h.IsListIter I l (i + 1) ∧ h.IsList l items) ∧ ∃ ys m', J i j ys ∧ h.get? D = some (LCg.lst ys) ∧ h.Ns C m' ∧ m' x = some v) ?_
        ⟨k₅.trans (.of k₅.ns up5), It.frame _ _ _ st₅ fun b _ o e => up5 b o e, ys, _, hJ, up5 _ _ D₅, hn₅.at' fun o e => up5 _ o e, if_pos rfl⟩ hs2 ?_ ?_
      · rintro j h T h' ⟨k, st, ys, m', hJ, hD', hC', hmx⟩ B
        refine ⟨⟨fun b o hb e => B b o (fun q => by rw [List.mem_singleton.mp q, hI2] at e; cases e) (k.but b o hb e), k.ns.at' fun o e => B _ o (fun q => L2 (List.mem_singleton.mp q)) e⟩,
          It.frame _ _ _ st fun b hb o e => B b o (fun q => f2 b hb (List.mem_singleton.mp q)) e, ys, m', hJ, B _ _ (fun q => D2 (List.mem_singleton.mp q)) hD', hC'.at' fun o e => B _ o (fun q => C2 (List.mem_singleton.mp q)) e, hmx⟩
      · rintro j yv h₇ T₇ tk₇ hj ⟨k, st, ys, m', hJ, hD', hC', hmx⟩ hsign _ st2
        refine asg_name hy hkind hC' fun h₈ tk₈ hn₈ but₈ _ => ?_
        have k₈ : Kp env.locals m s.heap h₈ := ⟨fun b o hb e => but₈ b o (fun q => by rw [List.mem_singleton.mp q, hC₀] at e; cases e) (k.but b o hb e), k.ns.at' fun o e => but₈ _ o (fun q => hCL (List.mem_singleton.mp q).symm) e⟩
        have D₈ : h₈.get? D = some (LCg.lst ys) := but₈ _ _ (fun q => hDC (List.mem_singleton.mp q)) hD'
        have st₈ : h₈.IsListIter I l (i + 1) ∧ h₈.IsList l items := It.frame _ _ _ st fun b hb o e => but₈ b o (fun q => hCf (by rw [← List.mem_singleton.mp q]; exact hb)) e
        have st2₈ : St2 (j + 1) h₈ := It2.frame _ _ _ st2 fun b hb o e => but₈ b o (fun q => C2 (by rw [← List.mem_singleton.mp q]; exact List.mem_singleton.mp hb)) e
        unfold emitOf
        refine wpAny_bind (wpAny_mono (step i j v yv h₈ tk₈ ys C _ hi hj hJ hP hsign (by rw [if_neg hxy]; exact hmx) (if_pos rfl) k₈ hn₈ hC₀) (fun z s₉ h₉ => ?_) fun _ _ x => x)
        obtain ⟨h', tk', rfl, k', hJ'⟩ := h₉
        refine wpAny_bind (append_at (hsz := by show ys.toArray.size ≤ sizeLine; rw [List.size_toArray]; exact Jl i j ys hi hj hJ) (k'.at hDL D₈) fun h₁₀ hs₁₀ hD₁₀ => wpAny_pure ?_)
        have L2' : I2 ≠ env.locals := Ne.symm L2
        refine ⟨h₁₀, tk', rfl, It2.frame _ _ _ st2₈ fun b hb o e => ?_, (k₈.trans k').same hs₁₀ hD₀ hDL, It.frame _ _ _ (kst st₈ k') fun b hb o e => hs₁₀.extBut b o (fun q => hDf (by rw [← q]; exact hb)) e, ys ++ [z], _, hJ', hD₁₀.trans (congrArg some (LCg.lst_snoc ys z)), (hn₈.at' fun o e => k'.at hCL e).sameBut hs₁₀ (Ne.symm hDC), by rw [if_neg hxy]; exact hmx⟩
        rw [List.mem_singleton.mp hb] at e ⊢
        exact hs₁₀.extBut _ o (Ne.symm D2) (k'.at L2' e)
      · rintro h' T tk' ⟨k, st, ys, m', hJ, hD', hC', hmx⟩ hT
        exact ⟨h', tk', ys, m', rfl, k, st, hJ, hD', hC'⟩
    have main2 := codeAny_mono (R' := fun r s' => match r with
        | .ok f => wpAny (model prog w) A (pure ()) (fun _ s₃ => ∃ h₃ tk₃, s₃ = { s with heap := h₃, toks := tk₃ } ∧ (h₃.IsListIter I l (i + 1) ∧ h₃.IsList l items) ∧ Kp env.locals m s.heap h₃ ∧ ∃ ys m', J (i + 1) 0 ys ∧ h₃.get? D = some (LCg.lst ys) ∧ h₃.Ns C m') (fun _ _ => False) s'
        | .error e => cameBackBy (model prog w) A (compEnvC scope cl C env) (fun _ _ => False) e s') main (fun r s' hr => by
      cases r with
      | error _ => exact hr.elim
      | ok f =>
        obtain ⟨h', tk', ys, m', rfl, k, st, hJ, hD', hC'⟩ := hr
        exact wpAny_pure ⟨h', tk', rfl, st, k, ys, m', J1 i ys hi hJ, hD', hC'⟩)
    exact compStart_second main2 (It2.self 0 _ _ _ hs2 main2)
  · rintro h' T tk' ⟨k, ys, m', hJ, hD', hC'⟩ hT
    exact ⟨h', tk', ys, rfl, k, hD', ⟨m', hC'⟩, hJ⟩
end
end Mine
end Comp3Part
section WordsPart
open PySem PySem.W PyProof.Rows PySem.Calls
set_option Elab.async false
set_option maxRecDepth 100000
set_option maxHeartbeats 2000000
namespace Mine
theorem fill8 : ∀ w : World, (fun (_ : OpenLaw) (_ : Frag) => True) PySem.Challenge.rw_pg0079_01 (Mine.hd.heap_39 w.params) := by
  w_top off
  k_fill
  intros
  trivial
local macro_rules | `(tactic| walk_at "mine cells") => `(tactic| (refine' enter_cells (by assumption) (by assumption) ?k6 ?k7 ?k9 ?kB ?kD ?c2 ?c3 ?c4 ?_; (case k6 => k_is); (case k7 => k_is); (case k9 => exact BindsTo.of_eq rfl); (case kB => exact rfl); (case kD => decide +kernel); (case c2 => exact rfl); (case c3 => exact rfl); (case c4 => exact rfl)))
local macro_rules | `(tactic| walk_at "mine stop") => `(tactic| first
  | (with_reducible show wpAny _ _ (exec (Stmt.For _ _ _ _ _) _) _ _ _)
  | (with_reducible show wpAny _ _ (exec (Stmt.Assign _ (Expr.ListComp _ _ _ _) _) _) _ _ _)
  | (with_reducible show wpAny _ _ (eval (Expr.ListComp _ _ _ _) _) _ _ _)
  | (with_reducible show wpAny _ _ (call (Value.type _) _) _ _ _)
  | (with_reducible show wpAny _ _ (call (Value.ref _) _) _ _ _)
  | (with_reducible show wpAny _ _ (binaryOp _ (Value.ref _) _) _ _ _)
  | (with_reducible show Exists _))
local macro_rules | `(tactic| walk_at "mine steps") => `(tactic| repeat' ((fail_if_success (walk_at "mine stop")); first | (k_unfold; (try dsimp only)) | walk1 | (dsimp only; walk1)))
set_option pp.deepTerms false
set_option pp.deepTerms.threshold 6
def signsOf (letters : Str) : List Str := letters.cps.toList.map fun c => ⟨#[c]⟩
def grow (letters : Str) (us : List Str) : List Str := us.flatMap fun u => (signsOf letters).map fun c => u ++ c
def wordsGo (letters : Str) : Nat → List Str × List Str
  | 0 => ([], [Str.ofString ""])
  | n + 1 => ((wordsGo letters n).1 ++ grow letters (wordsGo letters n).2, grow letters (wordsGo letters n).2)
theorem signs_length (letters : Str) : (signsOf letters).length = letters.length := by
  simp [signsOf, Str.length]
theorem grow_length (letters : Str) (us : List Str) : (grow letters us).length = us.length * letters.length := by
  unfold grow
  induction us with
  | nil => simp
  | cons u r ih =>
    rw [List.flatMap_cons, List.length_append, ih, List.length_map, signs_length, List.length_cons, Nat.succ_mul, Nat.add_comm]
theorem words_bound {letters : Str} (hk : letters.length ≤ 3) : ∀ n, (wordsGo letters n).2.length ≤ 3 ^ n ∧ (wordsGo letters n).1.length ≤ 2 * 3 ^ n
  | 0 => ⟨Nat.le_refl _, Nat.zero_le _⟩
  | n + 1 => by
    obtain ⟨h1, h2⟩ := words_bound hk n
    rw [wordsGo]
    dsimp only
    rw [List.length_append, grow_length, Nat.pow_succ]
    have : (wordsGo letters n).2.length * letters.length ≤ 3 ^ n * 3 := Nat.mul_le_mul h1 hk
    omega
theorem words_good {letters : Str} (hd : ∀ c ∈ letters.cps.toList, c ≠ 46) : ∀ n, (∀ u ∈ (wordsGo letters n).2, u.length = n ∧ ∀ c ∈ u.cps.toList, c ≠ 46) ∧ (∀ u ∈ (wordsGo letters n).1, 1 ≤ u.length ∧ u.length ≤ n ∧ ∀ c ∈ u.cps.toList, c ≠ 46)
  | 0 => by
    refine ⟨fun u hu => ?_, fun u hu => by cases hu⟩
    rw [List.mem_singleton.mp hu]
    exact ⟨by decide +kernel, fun c hc => by cases hc⟩
  | n + 1 => by
    obtain ⟨h1, h2⟩ := words_good hd n
    have g : ∀ u ∈ grow letters (wordsGo letters n).2, u.length = n + 1 ∧ ∀ c ∈ u.cps.toList, c ≠ 46 := by
      intro u hu
      unfold grow signsOf at hu
      obtain ⟨v, hv, hu⟩ := List.mem_flatMap.mp hu
      rw [List.map_map] at hu
      obtain ⟨c, hc, rfl⟩ := List.mem_map.mp hu
      obtain ⟨e1, e2⟩ := h1 v hv
      refine ⟨?_, ?_⟩
      · show (v ++ (⟨#[c]⟩ : Str)).length = n + 1
        rw [Str.length_append, e1]
        rfl
      · intro d hd'
        have : d ∈ v.cps.toList ++ [c] := by
          have e : (v ++ (⟨#[c]⟩ : Str)).cps = v.cps ++ #[c] := rfl
          have hd2 : d ∈ (v ++ (⟨#[c]⟩ : Str)).cps.toList := hd'
          rw [e, Array.toList_append] at hd2
          exact hd2
        rcases List.mem_append.mp this with q | q
        · exact e2 d q
        · rw [List.mem_singleton.mp q]; exact hd c hc
    refine ⟨g, fun u hu => ?_⟩
    rcases List.mem_append.mp hu with q | q
    · obtain ⟨a, b, c⟩ := h2 u q
      exact ⟨a, Nat.le_succ_of_le b, c⟩
    · obtain ⟨a, b⟩ := g u q
      exact ⟨by omega, by omega, b⟩
theorem words_spec {w : World} {A : Around} {s : Shared} {letters : Str} {tl : Tok} {size : Nat} {tz : Tok} {Q : Value → Shared → Prop} (G : Gnd w s.heap) (hr : Room A (1 + 1))
   (hk3 : letters.length ≤ 3) (hsz : size ≤ 5) (hdot : ∀ c ∈ letters.cps.toList, c ≠ 46)
   (h : ∀ D h' tk vs, (∀ b o, s.heap.get? b = some o → h'.get? b = some o) → s.heap.get? D = none → h'.IsList D vs.toArray → StrsAre vs (wordsGo letters size).1 → Q (.ref D) { s with heap := h', toks := tk }) :
   wpAny (model Pg w) A (call (.ref 68) [.str letters tl, .int (size : Int) tz]) Q (fun _ _ => False) s := by
  walk_at "mine cells"
  have G₀ := G
  obtain ⟨X, mean, mg, mb, T⟩ := G
  intro L h₁ tk cells dp fr gd un F N Y hr' htk
  k_cells Y
  try dsimp only
  walk_at "mine steps"
  refine For_mine ?_
  walk_at "mine steps"
  rename Fr _ _ _ _ => F₂
  rename News _ _ _ _ => N₂
  rename_i o₁ d₁ lA _ hA lB _ hB DD _ _ _ _ h₂
  refine call_range_1 ?_
  dsimp only
  have hsm : Builtin.Range.small 0 ((size : Nat) : Int) 1 = true ∧ Builtin.Range.rangeSize 0 ((size : Nat) : Int) 1 = ((size : Nat) : Int) := by
    have : size = 0 ∨ size = 1 ∨ size = 2 ∨ size = 3 ∨ size = 4 ∨ size = 5 := by omega
    rcases this with e | e | e | e | e | e <;> rw [e] <;> exact ⟨by decide, by decide⟩
  have ne2 : ∀ {a : Addr} {o : Obj}, h₂.get? a = some o → a ≠ h₂.objs.size + 1 := fun e => Nat.ne_of_lt (Nat.lt_succ_of_lt (Heap.lt_size e))
  have up2 : ∀ {ob : Obj} {a : Addr} {o : Obj}, h₂.get? a = some o → (h₂.push ob).get? a = some o := fun e => Heap.get?_push_of_some _ e
  refine' for_rangeT (h₀ := s.heap) (n := size) (J := fun i m h T => ∃ (lw ll : Addr) (vs ws : List Value), m (Str.ofString "words") = some (.ref lw) ∧ m (Str.ofString "longest") = some (.ref ll) ∧ h.IsList lw vs.toArray ∧ h.IsList ll ws.toArray ∧
      StrsAre vs (wordsGo letters i).1 ∧ StrsAre ws (wordsGo letters i).2 ∧ s.heap.get? lw = none ∧ lw ≠ L ∧ lw ≠ h₂.objs.size + 1 ∧ ll ≠ L ∧ ll ≠ h₂.objs.size + 1 ∧ h.get? (L + 1) = some o₁) ?q1 ?q2 ?q3 ?q4 ?q5 ?q6 ?q7 ?q8 ?q9 ?q10 ?q11
  case q1 => rfl
  case q2 => exact IsRange.new ..
  case q3 => exact hsm.1
  case q4 => exact hsm.2
  case q5 => exact F₂.push _
  case q6 => rfl
  case q7 => rfl
  case q8 =>
    rintro i m h T h' ⟨lw, ll, vs, ws, e1, e2, e3, e4, e5, e6, e7, e8, e9, e10, e11, e12⟩ B
    have nb : ∀ {ob : Obj} {a : Addr}, a ≠ L → a ≠ h₂.objs.size + 1 → a ∉ [L, (h₂.push ob).objs.size] := by
      intro ob a h1 h2 hm
      rcases List.mem_cons.mp hm with q | hm
      · exact h1 q
      · exact h2 ((List.mem_singleton.mp hm).trans (Heap.size_push ..))
    refine ⟨lw, ll, vs, ws, e1, e2, e3.at fun o e => B _ o ?_ e, e4.at fun o e => B _ o ?_ e, e5, e6, e7, e8, e9, e10, e11, B _ _ ?_ e12⟩
    · exact nb e8 e9
    · exact nb e10 e11
    · exact nb (Nat.succ_ne_self L) (ne2 (N₂ _ (.tail _ (.tail _ (.tail _ (.head _))))).1)
  case q9 =>
    refine ⟨lA, lB, [], _, by rfl, by rfl, ⟨_, up2 (N₂ _ (.tail _ (.tail _ (.head _)))).1, rfl, _, rfl⟩, ⟨_, up2 (N₂ _ (.tail _ (.head _))).1, rfl, _, rfl⟩, .nil, .cons _ _ .nil,
      (N₂ _ (.tail _ (.tail _ (.head _)))).2.2, (N₂ _ (.tail _ (.tail _ (.head _)))).2.1, ne2 (N₂ _ (.tail _ (.tail _ (.head _)))).1, (N₂ _ (.tail _ (.head _))).2.1, ne2 (N₂ _ (.tail _ (.head _))).1, up2 (N₂ _ (.tail _ (.tail _ (.tail _ (.head _))))).1⟩
  case q10 =>
    rintro i v m₁ h₃ T₃ tk₄ all hi ⟨tv, rfl⟩ ⟨lw, ll, vs, ws, e1, e2, e3, e4, e5, e6, e7, e8, e9, e10, e11, e12⟩ hT F₃ N₃ hall ⟨oI, hoI⟩
    replace F₃ := know (know F₃ (y := Str.ofString "words") e1) (y := Str.ofString "longest") e2
    have mL : (L + 1, o₁) ∈ all := hall _ _ e12 (Nat.succ_ne_self L) (N₂ _ (.tail _ (.tail _ (.tail _ (.head _))))).2.2
    have st : ∀ {h' : Heap} {m' : Str → Option Value}, Fr s.heap L h' m' → News s.heap L h' all → h'.IsList lw vs.toArray := fun F' N' => e3.at fun o e => still F₃ hall e e8 F' N'
    clear F₂ N₂
    walk_at "mine steps"
    have hwl : ws.length = (wordsGo letters i).2.length := e6.length
    have hbd := words_bound hk3 i
    have hp3 : 3 ^ i ≤ 243 := by
      have : i = 0 ∨ i = 1 ∨ i = 2 ∨ i = 3 ∨ i = 4 ∨ i = 5 := by omega
      rcases this with e | e | e | e | e | e <;> rw [e] <;> decide
    have hgood := (words_good hdot i).1
    generalize hus : (wordsGo letters i).2 = us at *
    have hcs : letters.cps.size = letters.length := rfl
    have hsl : (signsOf letters).length = letters.cps.size := signs_length letters
    refine comp_assign (Fin := fun ys _ => StrsAre ys (grow letters (us.take ws.toArray.size) ++ ((signsOf letters).take 0).map fun c => (us[ws.toArray.size]?.getD ⟨#[]⟩) ++ c)) F₃.ns (by rfl) (by rfl) (by decide) (by rfl) (by decide) (by rfl) (by rfl) ?_ ?_
    · walk_at "mine steps"
      refine comp_two (items := ws.toArray) (letters := letters) (tl := tl) rfl F₃.ns (Kp.of F₃.ns fun _ _ e => e) e4 e10 (by rfl) (by rfl) (by decide) (by rfl)
        (fun i j ys => StrsAre ys (grow letters (us.take i) ++ ((signsOf letters).take j).map fun c => (us[i]?.getD ⟨#[]⟩) ++ c)) .nil ?_ ?_ (fun _ _ => rfl) ?_ ?_
      · intro k ys hk hJ
        rw [List.size_toArray, hwl] at hk
        rw [List.take_of_length_le (Nat.le_of_eq hsl), List.getElem?_eq_getElem hk] at hJ
        rw [List.take_succ_eq_append_getElem hk]
        unfold grow at hJ ⊢
        rw [List.flatMap_append, List.take_zero, List.map_nil, List.append_nil, List.flatMap_singleton]
        exact hJ
      · intro k j ys hk hj hJ
        rw [List.size_toArray, hwl] at hk
        rw [hJ.length, List.length_append, grow_length, List.length_map, List.length_take, List.length_take, sizeLine]
        have : min k us.length * letters.length ≤ 243 * 3 := Nat.mul_le_mul (by omega) hk3
        omega
      · intro h₅ tk₅ C m₂ Q' hk hn hC hQ
        obtain ⟨all2, oC, N₅, mC, hoC, hall2, kp⟩ := turn_led F₃ hk hn hC
        have mL2 := hall2 _ _ (N₃ _ mL).1 (N₃ _ mL).2.1 (N₃ _ mL).2.2
        have F₅ := hk.fr F₃
        clear F₃ N₃
        walk_at "mine steps"
        exact hQ _
      · intro k j xv yv h₅ tk₅ ys C m₂ hk' hj hJ hx hy hmx hmy hk hn hC
        obtain ⟨all2, oC, N₅, mC, hoC, hall2, kp⟩ := turn_led F₃ hk hn hC
        have F₅ := hk.fr F₃
        clear F₃ N₃
        rw [List.size_toArray, hwl] at hk'
        obtain ⟨c, u, hc, rfl⟩ := hy
        obtain ⟨tx, rfl⟩ : ∃ t, xv = .str us[k] t := by
          obtain ⟨t, e⟩ := e6.get k us[k] (List.getElem?_eq_getElem hk')
          rw [List.getElem?_toArray, e] at hx
          exact ⟨t, (Option.some.inj hx).symm⟩
        have hlen := (hgood us[k] (List.getElem_mem hk')).1
        rw [List.getElem?_eq_getElem hk'] at hJ ⊢
        generalize us[k] = uk at *
        walk_at "mine steps"
        refine use_concat G₀ F₅ N₅ hr' ?_ ?_
        · have : (⟨#[c]⟩ : Str).length = 1 := rfl
          rw [sizeLine]
          omega
        intro t₆ h₆ tk₆ F₆ N₆
        refine ⟨h₆, tk₆, rfl, kp _ _ all2 F₆ N₆ (fun _ h => h), ?_⟩
        have hj2 : j < (signsOf letters).length := by rw [hsl]; exact hj
        have hcj : (signsOf letters)[j] = ⟨#[c]⟩ := by
          have hjs : j < letters.cps.size := hj
          have : letters.cps[j] = c := by
            rw [Array.getElem?_eq_getElem hjs] at hc
            exact Option.some.inj hc
          simp [signsOf, this]
        rw [List.take_succ_eq_append_getElem hj2, List.map_append, ← List.append_assoc, hcj]
        exact hJ.append' (.cons _ _ .nil)
    · intro D h₅ T₅ tk₅ ys hk hD hD' hF hT₅
      have F₅ := hk.fr F₃
      have N₅ := hk.news N₃
      have hDL : D ≠ L := ns_there F₃.ns hD
      have hD₀ : s.heap.get? D = none := by
        cases q : s.heap.get? D with
        | none => rfl
        | some o => have := F₃.keep _ _ q; rw [hD] at this; cases this
      have hDI : D ≠ h₂.objs.size + 1 := by
        intro q
        have := (N₃ _ hoI).1
        have e : (h₂.objs.size + 1) = D := q.symm
        dsimp only at this
        rw [Heap.size_push, e] at this
        exact absurd (this.symm.trans hD) (by intro q; cases q)
      have N₆ : News s.heap L h₅ ((D, LCg.lst ys) :: all) := by
        intro p hp
        rcases List.mem_cons.mp hp with rfl | hp
        · exact ⟨hD', hDL, hD₀⟩
        · exact N₅ p hp
      have hF' : StrsAre ys (wordsGo letters (i + 1)).2 := by
        rw [List.size_toArray, hwl, List.take_of_length_le (Nat.le_refl us.length), List.take_zero, List.map_nil, List.append_nil] at hF
        rw [wordsGo, hus]
        exact hF
      have hwl2 : vs.length = (wordsGo letters i).1.length := e5.length
      have hyl : ys.length = us.length * letters.length := by rw [hF'.length, wordsGo, hus, grow_length]
      have hyl2 : us.length * letters.length ≤ 243 * 3 := Nat.mul_le_mul (by omega) hk3
      clear N₅ hF
      have st' := st F₅ (N₆.perm fun p hp => .tail _ hp)
      clear st
      walk_at "mine steps"
      refine add_lists F₅ N₆ (vs := vs) (ws := ys) st' ⟨_, (N₆ _ (.head _)).1, rfl, _, rfl⟩ ?_ ?_
      rotate_left
      · rw [sizeLine]; omega
      intro h₆ F₆ N₇
      have hneL : h₅.objs.size ≠ L := Nat.ne_of_gt F₅.ns.lt
      have hneI : h₅.objs.size ≠ h₂.objs.size + 1 := by
        refine fun q => N₆.fresh_ne _ (.tail _ hoI) (q.trans ?_)
        exact (Heap.size_push ..).symm
      have hne0 : s.heap.get? h₅.objs.size = none := next_is_new F₅
      clear F₃ N₃ F₅ N₆ st'
      dsimp only at N₇ ⊢
      walk_at "mine steps"
      rename Fr _ _ _ _ => F₈
      rename News _ _ _ _ => N₈
      refine TurnT.next F₈ N₈ (fun p hp => .tail _ (.tail _ hp)) ⟨h₅.objs.size, D, vs ++ ys, ys, by rfl, by rfl, ⟨_, (N₈ _ (.head _)).1, rfl, _, rfl⟩, ⟨_, (N₈ _ (.tail _ (.head _))).1, rfl, _, rfl⟩, ?_, hF', hne0, hneL, hneI, hDL, hDI, (N₈ _ (.tail _ (.tail _ mL))).1⟩
      rw [wordsGo, hus]
      have : grow letters us = (wordsGo letters (i + 1)).2 := by rw [wordsGo, hus]
      rw [this]
      exact e5.append' hF'
  case q11 =>
    rintro h' T tk m' F' ⟨lw, ll, vs, ws, e1, e2, e3, e4, e5, e6, e7, e8, e9, e10, e11, e12⟩ hT
    replace F' := know F' (y := Str.ofString "words") e1
    have N' : News s.heap L h' [] := News.nil
    clear F₂ N₂
    walk_at "mine steps"
    exact h _ _ _ _ F'.keep e7 e3 e5
end Mine
end WordsPart
section Pure3Part
open PySem PySem.W PyProof.Rows PySem.Calls
set_option Elab.async false
set_option maxRecDepth 100000
namespace Mine
def cd (letters : Str) (i : Nat) : Nat := letters.cps.toList.getD i 0
def emb (letters : Str) (d : List Nat) : Str := ⟨(d.map (cd letters)).toArray⟩
theorem emb_length (letters : Str) (d : List Nat) : (emb letters d).length = d.length := by simp [emb, Str.length]
theorem emb_list (letters : Str) (d : List Nat) : (emb letters d).cps.toList = d.map (cd letters) := by simp [emb]
theorem emb_append (letters : Str) (d e : List Nat) : emb letters d ++ emb letters e = emb letters (d ++ e) := by
  refine str_ext ?_
  rw [emb_list]
  show ((emb letters d).cps ++ (emb letters e).cps).toList = _
  rw [Array.toList_append, emb_list, emb_list, List.map_append]
theorem emb_one (letters : Str) (i : Nat) : (⟨#[cd letters i]⟩ : Str) = emb letters [i] := rfl
theorem emb_nil (letters : Str) : emb letters [] = Str.ofString "" := rfl
theorem item_nat {letters : Str} {i : Nat} (h : i < letters.length) : Txt.item letters (i : Int) = emb letters [i] := by
  have h' : i < letters.cps.size := h
  have e : seqIndex? (i : Int) letters.length = some i := by
    unfold seqIndex?
    simp
    omega
  unfold Txt.item Txt.charAt emb cd
  rw [e]
  simp [h', List.getD_eq_getElem?_getD]
theorem item_first (letters : Str) (a : Nat) (r : List Nat) : Txt.item (emb letters (a :: r)) 0 = emb letters [a] := by
  have e : seqIndex? 0 (emb letters (a :: r)).length = some 0 := by
    rw [emb_length]
    unfold seqIndex?
    simp
  unfold Txt.item Txt.charAt
  rw [e]
  rfl
theorem item_last (letters : Str) (r : List Nat) (a : Nat) : Txt.item (emb letters (r ++ [a])) (-1) = emb letters [a] := by
  have e : seqIndex? (-1) (emb letters (r ++ [a])).length = some r.length := by
    rw [emb_length]
    unfold seqIndex?
    simp
    omega
  unfold Txt.item Txt.charAt
  rw [e]
  simp [emb]
theorem join_emb (letters : Str) : ∀ d : List Nat, Txt.join (Str.ofString "") (d.map fun i => emb letters [i]) = emb letters d
  | [] => rfl
  | a :: r => by
    have go : ∀ (r e : List Nat), (r.map fun i => emb letters [i]).foldl (fun acc p => acc ++ (Str.ofString "").cps ++ p.cps) (emb letters e).cps = (emb letters (e ++ r)).cps := by
      intro r
      induction r with
      | nil => intro e; simp
      | cons b r ih =>
        intro e
        rw [List.map_cons, List.foldl_cons]
        have : (emb letters e).cps ++ (Str.ofString "").cps ++ (emb letters [b]).cps = (emb letters (e ++ [b])).cps := by
          rw [show (Str.ofString "").cps = #[] from rfl, Array.append_empty]
          exact congrArg Str.cps (emb_append letters e [b])
        rw [this, ih, List.append_assoc]
        rfl
    show (⟨_⟩ : Str) = _
    have := go r [a]
    refine congrArg Str.mk ?_
    exact this
theorem isSub_map (f : Nat → Nat) : ∀ (u d : List Nat), (∀ a ∈ u, ∀ b ∈ d, f a = f b → a = b) → (u.map f).isSublist (d.map f) = u.isSublist d
  | [], _, _ => by simp [List.isSublist]
  | a :: u, [], _ => by simp [List.isSublist]
  | a :: u, b :: d, h => by
    rw [List.map_cons, List.map_cons, List.isSublist, List.isSublist]
    by_cases c : a = b
    · subst c
      rw [if_pos (by simp), if_pos (by simp)]
      exact isSub_map f u d fun x hx y hy => h x (List.mem_cons_of_mem _ hx) y (List.mem_cons_of_mem _ hy)
    · have c' : f a ≠ f b := fun e => c (h a (by simp) b (by simp) e)
      rw [if_neg (by simpa using c'), if_neg (by simpa using c)]
      have := isSub_map f (a :: u) d fun x hx y hy => h x hx y (List.mem_cons_of_mem _ hy)
      rw [List.map_cons] at this
      exact this
def growN (k : Nat) (us : List (List Nat)) : List (List Nat) := us.flatMap fun u => (List.range k).map fun i => u ++ [i]
def wordsN (k : Nat) : Nat → List (List Nat) × List (List Nat)
  | 0 => ([], [[]])
  | n + 1 => ((wordsN k n).1 ++ growN k (wordsN k n).2, growN k (wordsN k n).2)
theorem signs_emb (letters : Str) : signsOf letters = (List.range letters.length).map fun i => emb letters [i] := by
  have hl : letters.cps.toList.length = letters.length := by simp [Str.length]
  refine List.ext_getElem ?_ fun i h1 h2 => ?_
  · rw [signs_length, List.length_map, List.length_range]
  · simp only [signsOf, List.getElem_map, List.getElem_range]
    simp only [signsOf, List.length_map] at h1
    refine str_ext ?_
    simp [emb, cd, List.getD_eq_getElem?_getD]
    have h3 : i < letters.cps.size := by simpa using h1
    simp [h3]
theorem grow_emb (letters : Str) (us : List (List Nat)) : grow letters (us.map (emb letters)) = (growN letters.length us).map (emb letters) := by
  unfold grow growN
  rw [signs_emb]
  induction us with
  | nil => rfl
  | cons u r ih =>
    rw [List.map_cons, List.flatMap_cons, List.flatMap_cons, List.map_append, ih, List.map_map, List.map_map]
    congr 1
    refine List.map_congr_left fun i _ => ?_
    exact emb_append letters u [i]
theorem words_emb (letters : Str) : ∀ n, wordsGo letters n = ((wordsN letters.length n).1.map (emb letters), (wordsN letters.length n).2.map (emb letters))
  | 0 => rfl
  | n + 1 => by
    rw [wordsGo, wordsN, words_emb letters n]
    dsimp only
    rw [grow_emb, List.map_append]
theorem wordsN_good (k : Nat) : ∀ n, (∀ u ∈ (wordsN k n).2, ∀ i ∈ u, i < k) ∧ (∀ u ∈ (wordsN k n).1, u ≠ [] ∧ ∀ i ∈ u, i < k)
  | 0 => by
    refine ⟨fun u hu i hi => ?_, fun u hu => by cases hu⟩
    rw [List.mem_singleton.mp hu] at hi
    cases hi
  | n + 1 => by
    obtain ⟨h1, h2⟩ := wordsN_good k n
    have g : ∀ u ∈ growN k (wordsN k n).2, u ≠ [] ∧ ∀ i ∈ u, i < k := by
      intro u hu
      obtain ⟨v, hv, hu⟩ := List.mem_flatMap.mp hu
      obtain ⟨i, hi, rfl⟩ := List.mem_map.mp hu
      refine ⟨by simp, fun x hx => ?_⟩
      rcases List.mem_append.mp hx with q | q
      · exact h1 v hv x q
      · rw [List.mem_singleton.mp q]; exact List.mem_range.mp hi
    refine ⟨fun u hu => (g u hu).2, fun u hu => ?_⟩
    rcases List.mem_append.mp hu with q | q
    · exact h2 u q
    · exact g u q
theorem wordsN_all (k : Nat) : ∀ n (d : List Nat), d.length = n → (∀ i ∈ d, i < k) → d ∈ (wordsN k n).2
  | 0, d, hl, _ => by
    rw [List.length_eq_zero_iff.mp hl]
    exact List.mem_singleton.mpr rfl
  | n + 1, d, hl, hi => by
    rcases List.eq_nil_or_concat d with rfl | ⟨e, a, rfl⟩
    · cases hl
    · rw [List.concat_eq_append] at *
      have hl' : e.length = n := by simpa using hl
      have := wordsN_all k n e hl' fun i h => hi i (List.mem_append_left _ h)
      exact List.mem_flatMap.mpr ⟨e, this, List.mem_map.mpr ⟨a, List.mem_range.mpr (hi a (by simp)), rfl⟩⟩
def readN : Nat → List Int → List Int × List Nat
  | 0, ns => (ns, [])
  | n + 1, ns => ((readN n (stepRow ns)).1, ns.idxOf (maxL ns) :: (readN n (stepRow ns)).2)
theorem readGo_emb {letters : Str} (hk : 1 ≤ letters.length) : ∀ n (ns : List Int) (rd : List Nat), ns.length = letters.length → readGo letters n ns (emb letters rd) = ((readN n ns).1, emb letters (rd ++ (readN n ns).2))
  | 0, ns, rd, _ => by rw [readGo, readN, List.append_nil]
  | n + 1, ns, rd, h => by
    have hne : ns ≠ [] := by intro q; rw [q] at h; simp at h; omega
    have hlt : ns.idxOf (maxL ns) < letters.length := by have := idx_lt hne; omega
    rw [readGo, item_nat hlt, emb_append, readGo_emb hk n (stepRow ns) _ (by rw [stepRow_length hne, h]), readN, List.append_assoc]
    rfl
def check (k size : Nat) (d : List Nat) : Bool :=
  let us := (wordsN k size).1.filter fun u => u.isSublist d
  let rb := readN size (rowOf k (us.map fun u => ((u.getLastD 0 : Nat) : Int)) k)
  let ra := readN size (rowOf k (us.map fun u => ((u.headD 0 : Nat) : Int)) k)
  rb.1 == List.replicate k 1 && rb.2.reverse == d && (ra.1 == List.replicate k 1 && ra.2 == d)
theorem check25 : (wordsN 2 5).2.all (check 2 5) = true := by decide +kernel
theorem check24 : (wordsN 2 4).2.all (check 2 4) = true := by decide +kernel
theorem check23 : (wordsN 2 3).2.all (check 2 3) = true := by decide +kernel
theorem check34 : (wordsN 3 4).2.all (check 3 4) = true := by decide +kernel
theorem check33 : (wordsN 3 3).2.all (check 3 3) = true := by decide +kernel
theorem check32 : (wordsN 3 2).2.all (check 3 2) = true := by decide +kernel
end Mine
end Pure3Part
section Pure4Part
open PySem PySem.W PyProof.Rows PySem.Calls
set_option Elab.async false
set_option maxRecDepth 100000
namespace Mine
def menu : List Str := [Str.ofString "ab*", Str.ofString "a\n*", Str.ofString "\n a", Str.ofString "*[\\"]
def lettersOf (j b : Nat) : Str := Txt.slice (menu.getD j Str.empty) none (some (2 + (b : Int)))
theorem letters_good : ∀ j, j < 4 → ∀ b, b < 2 → (lettersOf j b).length = 2 + b ∧ ∀ c ∈ (lettersOf j b).cps.toList, c ≠ 46 := by
  have h : ∀ j : Fin 4, ∀ b : Fin 2, (lettersOf j b).length = 2 + b ∧ ∀ c ∈ (lettersOf j b).cps.toList, c ≠ 46 := by decide +kernel
  intro j hj b hb
  exact h ⟨j, hj⟩ ⟨b, hb⟩
theorem letters_find : ∀ j, j < 4 → ∀ b, b < 2 → ∀ i, i < 2 + b → Txt.find (lettersOf j b) (emb (lettersOf j b) [i]) = (i : Int) := by
  have h : ∀ j : Fin 4, ∀ b : Fin 2, ∀ i : Fin 3, i.1 < 2 + b.1 → Txt.find (lettersOf j b) (emb (lettersOf j b) [i.1]) = (i.1 : Int) := by decide +kernel
  intro j hj b hb i hi
  exact h ⟨j, hj⟩ ⟨b, hb⟩ ⟨i, by omega⟩ hi
theorem letters_inj : ∀ j, j < 4 → ∀ b, b < 2 → ∀ i, i < 2 + b → ∀ i', i' < 2 + b → cd (lettersOf j b) i = cd (lettersOf j b) i' → i = i' := by
  have h : ∀ j : Fin 4, ∀ b : Fin 2, ∀ i : Fin 3, i.1 < 2 + b.1 → ∀ i' : Fin 3, i'.1 < 2 + b.1 → cd (lettersOf j b) i.1 = cd (lettersOf j b) i'.1 → i.1 = i'.1 := by decide +kernel
  intro j hj b hb i hi i' hi'
  exact h ⟨j, hj⟩ ⟨b, hb⟩ ⟨i, by omega⟩ hi ⟨i', by omega⟩ hi'
theorem rev_emb (letters : Str) (d : List Nat) (u : Tok) : Txt.sliceBy (emb letters d.reverse) none none (-1, u) = emb letters d := by
  refine str_ext ?_
  rw [step_rev_list, emb_list, emb_length, List.length_reverse]
  refine List.ext_getElem (by simp) fun i h1 h2 => ?_
  have hi : i < d.length := by simpa using h1
  simp only [List.getElem_map, List.getElem_range, emb, Array.getD_eq_getD_getElem?, List.getElem?_toArray, List.map_reverse]
  rw [List.getElem?_reverse (by simp; omega)]
  simp
  rw [show d.length - 1 - (d.length - 1 - i) = i by omega]
  simp [hi]
theorem places_emb {letters : Str} {k : Nat} (hf : ∀ i, i < k → Txt.find letters (emb letters [i]) = (i : Int)) (hi : ∀ i, i < k → ∀ i', i' < k → cd letters i = cd letters i' → i = i') {d : List Nat} (hd : ∀ i ∈ d, i < k) :
    ∀ us : List (List Nat), (∀ u ∈ us, u ≠ [] ∧ ∀ i ∈ u, i < k) →
      placesOf letters (-1) (us.map (emb letters)) ((us.map (emb letters)).map fun u => u.cps.toList.isSublist (emb letters d).cps.toList) = (us.filter fun u => u.isSublist d).map (fun u => ((u.getLastD 0 : Nat) : Int)) ∧
      placesOf letters 0 (us.map (emb letters)) ((us.map (emb letters)).map fun u => u.cps.toList.isSublist (emb letters d).cps.toList) = (us.filter fun u => u.isSublist d).map (fun u => ((u.headD 0 : Nat) : Int)) := by
  intro us
  induction us with
  | nil => intro _; exact ⟨rfl, rfl⟩
  | cons u r ih =>
    intro hu
    obtain ⟨ih1, ih2⟩ := ih fun v hv => hu v (List.mem_cons_of_mem _ hv)
    obtain ⟨hne, hk⟩ := hu u (by simp)
    have hs : (emb letters u).cps.toList.isSublist (emb letters d).cps.toList = u.isSublist d := by
      rw [emb_list, emb_list]
      exact isSub_map _ u d fun a ha b hb => hi a (hk a ha) b (hd b hb)
    have hl : placeOf letters (-1) (emb letters u) = ((u.getLastD 0 : Nat) : Int) := by
      rcases List.eq_nil_or_concat u with q | ⟨e, a, q⟩
      · exact absurd q hne
      · rw [List.concat_eq_append] at q
        subst q
        unfold placeOf
        rw [item_last, hf a (hk a (by simp))]
        simp
    have hh : placeOf letters 0 (emb letters u) = ((u.headD 0 : Nat) : Int) := by
      cases u with
      | nil => exact absurd rfl hne
      | cons a e =>
        unfold placeOf
        rw [item_first, hf a (hk a (by simp))]
        rfl
    unfold placesOf at ih1 ih2 ⊢
    rw [List.map_cons, List.map_cons, List.zip_cons_cons, List.filter_cons, List.filter_cons, hs]
    cases u.isSublist d with
    | true => exact ⟨by rw [if_pos rfl, if_pos rfl, List.map_cons, List.map_cons, ih1, hl], by rw [if_pos rfl, if_pos rfl, List.map_cons, List.map_cons, ih2, hh]⟩
    | false => exact ⟨by rw [if_neg (by simp), if_neg (by simp), ih1], by rw [if_neg (by simp), if_neg (by simp), ih2]⟩
theorem check_of {b size : Nat} (hb : b < 2) (h1 : 3 - b ≤ size) (h2 : size ≤ 5 - b) {d : List Nat} (hdl : d.length = size) (hdk : ∀ i ∈ d, i < 2 + b) : check (2 + b) size d = true := by
  have hm := wordsN_all (2 + b) size d hdl hdk
  have hc : (b = 0 ∧ size = 5) ∨ (b = 0 ∧ size = 4) ∨ (b = 0 ∧ size = 3) ∨ (b = 1 ∧ size = 4) ∨ (b = 1 ∧ size = 3) ∨ (b = 1 ∧ size = 2) := by omega
  rcases hc with ⟨rfl, rfl⟩ | ⟨rfl, rfl⟩ | ⟨rfl, rfl⟩ | ⟨rfl, rfl⟩ | ⟨rfl, rfl⟩ | ⟨rfl, rfl⟩
  · exact List.all_eq_true.mp check25 d hm
  · exact List.all_eq_true.mp check24 d hm
  · exact List.all_eq_true.mp check23 d hm
  · exact List.all_eq_true.mp check34 d hm
  · exact List.all_eq_true.mp check33 d hm
  · exact List.all_eq_true.mp check32 d hm
theorem law_pure {j b size : Nat} (hj : j < 4) (hb : b < 2) (h1 : 3 - b ≤ size) (h2 : size ≤ 5 - b) {d : List Nat} (hdl : d.length = size) (hdk : ∀ i ∈ d, i < 2 + b)
    {letters : Str} (hl : lettersOf j b = letters) {us : List Str} (hu : (wordsGo letters size).1 = us) {bs : List Bool} (hbs : (us.map fun u => u.cps.toList.isSublist (emb letters d).cps.toList) = bs) :
    readOf letters (rowOf letters.length (placesOf letters (-1) us bs) letters.length) size = emb letters d.reverse ∧
    readOf letters (rowOf letters.length (placesOf letters 0 us bs) letters.length) size = emb letters d := by
  subst hl
  have hk := (letters_good j hj b hb).1
  have hc := check_of hb h1 h2 hdl hdk
  subst hbs hu
  rw [words_emb]
  dsimp only
  have hg := (wordsN_good (lettersOf j b).length size).2
  rw [hk] at hg ⊢
  obtain ⟨p1, p2⟩ := places_emb (letters_find j hj b hb) (letters_inj j hj b hb) hdk _ hg
  rw [p1, p2]
  unfold check at hc
  simp only [Bool.and_eq_true, beq_iff_eq] at hc
  obtain ⟨⟨c1, c2⟩, c3, c4⟩ := hc
  have hr : ∀ ps : List Int, (rowOf (2 + b) ps (2 + b)).length = (lettersOf j b).length := by
    intro ps
    unfold rowOf
    rw [List.length_map, List.length_range, hk]
  have hk1 : 1 ≤ (lettersOf j b).length := by omega
  unfold readOf
  rw [← emb_nil (lettersOf j b), readGo_emb hk1 _ _ _ (hr _), readGo_emb hk1 _ _ _ (hr _), hk]
  dsimp only
  rw [if_pos c1, if_pos c3, List.nil_append, List.nil_append, c4, List.reverse_eq_iff.mp c2]
  exact ⟨rfl, rfl⟩
end Mine
end Pure4Part
section LawPart
open PySem PySem.W PyProof.Rows PySem.Calls
set_option Elab.async false
set_option maxRecDepth 100000
set_option maxHeartbeats 8000000
namespace Mine
theorem fill9 : ∀ w : World, (fun (_ : OpenLaw) (_ : Frag) => True) PySem.Challenge.rw_pg0079_01 (Mine.hd.heap_39 w.params) := by
  w_top off
  k_fill
  intros
  trivial
local macro_rules | `(tactic| walk_at "mine stop") => `(tactic| first
  | (with_reducible show wpAny _ _ (exec (Stmt.For _ _ _ _ _) _) _ _ _)
  | (with_reducible show wpAny _ _ (exec (Stmt.Assign _ (Expr.ListComp _ _ _ _) _) _) _ _ _)
  | (with_reducible show wpAny _ _ (eval (Expr.ListComp _ _ _ _) _) _ _ _)
  | (with_reducible show wpAny _ _ (call (Value.ref _) _) _ _ _)
  | (with_reducible show wpAny _ _ (call (Value.builtin "len") [Value.ref _]) _ _ _)
  | (with_reducible show wpAny _ _ (subscriptTail _ _ (Value.str _ _) (Value.int _ _)) _ _ _)
  | (with_reducible show wpAny _ _ (subscriptTail _ (Expr.Slice none none (some _) _) (Value.str _ _) (Value.ref _)) _ _ _)
  | (with_reducible show wpAny _ _ (subscriptTail (Expr.Tuple _ _ _) _ (Value.ref _) _) _ _ _)
  | (with_reducible show wpAny _ _ (subscriptTail _ _ (Value.ref _) (Value.ref _)) _ _ _)
  | (with_reducible show wpAny _ _ (binaryOp _ (Value.ref _) _) _ _ _)
  | (with_reducible show wpAny _ _ (storeName _ _ (Value.int _ _)) _ _ _)
  | (with_reducible show wpAny _ _ (storeName _ _ (Value.str _ _)) _ _ _)
  | (with_reducible show Exists _))
local macro_rules | `(tactic| walk_at "mine steps") => `(tactic| repeat' ((fail_if_success (walk_at "mine stop")); first | (k_unfold; (try dsimp only)) | walk1 | (dsimp only; walk1)))
def drawnOf (ns : List Int) : List Int := (ns.take 6).map fun n => n % 1000000
def cellsOf (ns : List Int) : List Int := drawnOf ns ++ [0, 0, 1, 1, 0, 1].drop (drawnOf ns).length
theorem cells_length (ns : List Int) : (cellsOf ns).length = 6 := by
  have : (drawnOf ns).length ≤ 6 := by
    unfold drawnOf
    rw [List.length_map, List.length_take]
    omega
  unfold cellsOf
  rw [List.length_append, List.length_drop]
  simp
  omega
theorem cells_range (ns : List Int) : ∀ c ∈ cellsOf ns, 0 ≤ c ∧ c < 1000000 := by
  intro c hc
  unfold cellsOf at hc
  rcases List.mem_append.mp hc with hc | hc
  · unfold drawnOf at hc
    obtain ⟨n, _, rfl⟩ := List.mem_map.mp hc
    omega
  · have := List.mem_of_mem_drop hc
    simp at this
    omega
theorem six {vs : List Value} {ns : List Int} (h : IntsAre vs ns) (hl : ns.length = 6) : ∃ c0 c1 c2 c3 c4 c5 t0 t1 t2 t3 t4 t5, vs = [.int c0 t0, .int c1 t1, .int c2 t2, .int c3 t3, .int c4 t4, .int c5 t5] ∧ ns = [c0, c1, c2, c3, c4, c5] := by
  match vs, ns, h with
  | _, _, .cons c0 t0 (.cons c1 t1 (.cons c2 t2 (.cons c3 t3 (.cons c4 t4 (.cons c5 t5 .nil))))) => exact ⟨c0, c1, c2, c3, c4, c5, t0, t1, t2, t3, t4, t5, rfl, rfl⟩
  | _, _, .nil => cases hl
  | _, _, .cons _ _ .nil => cases hl
  | _, _, .cons _ _ (.cons _ _ .nil) => cases hl
  | _, _, .cons _ _ (.cons _ _ (.cons _ _ .nil)) => cases hl
  | _, _, .cons _ _ (.cons _ _ (.cons _ _ (.cons _ _ .nil))) => cases hl
  | _, _, .cons _ _ (.cons _ _ (.cons _ _ (.cons _ _ (.cons _ _ .nil)))) => cases hl
  | _, _, .cons _ _ (.cons _ _ (.cons _ _ (.cons _ _ (.cons _ _ (.cons _ _ (.cons _ _ _)))))) => simp at hl
theorem news_cons {h₀ h : Heap} {L D : Addr} {o : Obj} {all : List (Addr × Obj)} (e : h.get? D = some o) (hL : D ≠ L) (h0 : h₀.get? D = none) (N : News h₀ L h all) : News h₀ L h ((D, o) :: all) := by
  intro p hp
  rcases List.mem_cons.mp hp with rfl | hp
  · exact ⟨e, hL, h0⟩
  · exact N p hp
theorem not_yet {h₀ h : Heap} {L D : Addr} {m : Str → Option Value} (F : Fr h₀ L h m) (hD : h.get? D = none) : h₀.get? D = none := by
  cases q : h₀.get? D with
  | none => rfl
  | some o => have := F.keep _ _ q; rw [hD] at this; cases this
theorem rowOf_length (k : Nat) (ps : List Int) (n : Nat) : (rowOf k ps n).length = n := by
  unfold rowOf
  rw [List.length_map, List.length_range]
theorem rowOf_bound {k : Nat} {ps : List Int} {m : Nat} (hk1 : 1 ≤ k) (hk : k ≤ 3) (hp : ps.length ≤ 1000) : ∀ n ∈ rowOf k ps m, -10000 ≤ n ∧ n ≤ 10000 := by
  intro n hn
  unfold rowOf at hn
  obtain ⟨p, _, rfl⟩ := List.mem_map.mp hn
  have hc : ps.count (p : Int) ≤ 1000 := Nat.le_trans List.count_le_length hp
  generalize ps.count (p : Int) = c at hc
  have : k = 1 ∨ k = 2 ∨ k = 3 := by omega
  rcases this with rfl | rfl | rfl
  · have e : (((1 : Nat) : Int) - 1) * (c : Int) + 1 = 1 := by simp
    rw [e]; omega
  · have e : (((2 : Nat) : Int) - 1) * (c : Int) + 1 = c + 1 := by omega
    rw [e]; omega
  · have e : (((3 : Nat) : Int) - 1) * (c : Int) + 1 = 2 * c + 1 := by omega
    rw [e]; omega
theorem emb_sum (letters : Str) : ∀ d : List Nat, ((d.map fun i => emb letters [i]).map fun x => x.length).sum = d.length
  | [] => rfl
  | a :: r => by
    rw [List.map_cons, List.map_cons, List.sum_cons, emb_sum letters r, List.length_cons, emb_length]
    simp
    omega
set_option pp.deepTerms false
set_option pp.deepTerms.threshold 6
set_option pp.proofs false
theorem holds : PySem.Challenge.rw_pg0079_01.Holds := Mine.hd (by
  w_strict (k_go0
            refine wpAny_mono (E := fun _ _ => False) ?_ (fun _ _ x => x) (fun _ _ x => x.elim)
            rename (Mine.hd.heap_39 _).In _ => KX
            rename Top Mine.hd.view_39 _ _ _ _ _ => T
            have G₀ : Gnd _ _ := ⟨KX, _, _, _, T⟩
            rename Fr _ _ _ _ => F
            rename News _ _ _ _ => N
            rename IntsAre _ _ => hI
            rename Heap.IsList _ _ _ => hL
            have hr : ∀ env, Room (callerA.deeper env) 20 := fun env => ⟨rfl, by show 1 + claimMargin + 1 + 20 < recursionLimit; decide, by show 4 + _ + 8 * 20 < cLine; decide⟩
            dsimp only
            walk_at "mine steps"
            rename Shared => s
            rename List Value => vs
            rename List Int => ns
            have hvl : vs.length = ns.length := hI.length
            have hn63 : ns.length ≤ 63 := by omega
            refine comp_assign (Fin := fun ys tk => ∃ T, T ≤ tk ∧ IntsAre ys (((ns.take 6).take (vs.take 6).toArray.size).map fun n => n % 1000000)) F.ns (by rfl) (by rfl) (by decide) (by rfl) (by decide) (by rfl) (by rfl) ?_ ?_
            · walk_at "mine steps"
              refine slice_list (s := ⟨_, _, _, _, _⟩) (lo := none) (hi := some ((6 : Nat) : Int)) F news_all (hL.at fun o e => F.keep _ o e) (by constructor) (by constructor) ?_ (by with_unfolding_all rfl) (by intro _; with_unfolding_all rfl) ?_
              rotate_left
              · rw [List.size_toArray, hvl, sizeLine]; omega
              intro h₂ F₂ N₂
              rw [show slicePick vs.toArray none (some ((6 : Nat) : Int)) none = (vs.take 6).toArray from slicePick_upto' _ _] at N₂
              have k₂ := kp_all F F₂ N₂ (fun p hp => .tail _ hp)
              refine comp_list (items := (vs.take 6).toArray) rfl F.ns k₂ ⟨_, (N₂ _ (.head _)).1, rfl, _, rfl⟩ (N₂ _ (.head _)).2.1 ?_ (by rfl) (by rfl) (fun i ys _ => IntsAre ys (((ns.take 6).take i).map fun n => n % 1000000)) (fun _ _ => .nil) ?_
              · rw [List.size_toArray, List.length_take, sizeLine]; omega
              · intro i v h₃ T₃ tk₃ ys C m₂ hi hJ hT hv hx hk hn hC
                refine wpAny_tests_nil ?_
                simp only [if_true]
                obtain ⟨all, oC, N₃, mC, hoC, hall, kp⟩ := turn_led F hk hn hC
                have F₃ := hk.fr F
                have hi2 : i < (ns.take 6).length := by
                  rw [List.size_toArray, List.length_take, hvl] at hi
                  rw [List.length_take]; exact hi
                obtain ⟨tv, rfl⟩ : ∃ t, v = .int (ns.take 6)[i] t := by
                  obtain ⟨t, e⟩ := (hI.take 6).get i (ns.take 6)[i] (List.getElem?_eq_getElem hi2)
                  rw [List.getElem?_toArray, e] at hv
                  exact ⟨t, (Option.some.inj hv).symm⟩
                have hup : (ns.take 6).take (i + 1) = (ns.take 6).take i ++ [(ns.take 6)[i]] := List.take_succ_eq_append_getElem hi2
                generalize (ns.take 6)[i] = n at *
                clear F N F₂ N₂
                walk_at "mine steps"
                refine ⟨_, _, rfl, kp _ _ all (by assumption) (by assumption) (fun _ h => h), ?_⟩
                rw [hup, List.map_append]
                refine hJ.append ?_
                have hfm : n.fmod (10 ^ Int.toNat 6) = n % 1000000 := Int.fmod_eq_emod_of_nonneg _ (by decide)
                show IntsAre _ [n % 1000000]
                rw [← hfm]
                exact .cons _ _ .nil
            · intro D h₂ T₂ tk₂ ys hk hD hD' hF hT₂
              obtain ⟨_, _, hF⟩ := hF
              rw [List.size_toArray, List.length_take, hvl, ← List.length_take, List.take_length] at hF
              have F₂ := hk.fr F
              have N₂ := hk.news N
              have hDL := ns_there F.ns hD
              have N₃ := news_cons hD' hDL (not_yet F hD) N₂
              clear F N N₂
              walk_at "mine steps"
              rename Fr _ _ _ _ => F₄
              rename News _ _ _ _ => N₄
              have hyl : ys.length = (drawnOf ns).length := hF.length
              have hy6 : (drawnOf ns).length ≤ 6 := by
                unfold drawnOf
                rw [List.length_map, List.length_take]
                omega
              refine len_list (items := ys.toArray) ⟨_, (N₄ _ (.tail _ (.head _))).1, rfl, _, rfl⟩ ?_ ?_
              · rw [List.size_toArray, hyl]; omega
              rw [show ys.toArray.size = (drawnOf ns).length by rw [List.size_toArray, hyl]]
              dsimp only
              walk_at "mine steps"
              refine kba_turn (value' := Expr.Name (Str.ofString "x") ⟨0, 0, 0, 0⟩) (fun _ => rfl) ?_
              refine slice_list (s := ⟨_, _, _, _, _⟩) (lo := some (((drawnOf ns).length : Nat) : Int)) (hi := none) F₄ N₄ ⟨_, (N₄ _ (.head _)).1, rfl, _, rfl⟩ (by constructor) (by constructor) ?_ (by with_unfolding_all rfl) (by intro _; with_unfolding_all rfl) (by show 6 ≤ sizeLine; decide)
              intro h₅ F₅ N₅
              clear F₄ N₄
              dsimp only at N₅ ⊢
              rw [slicePick_from'] at N₅
              have hsix : ∀ t0 t1 t2 t3 t4 t5 : Tok, IntsAre ([Value.int 0 t0, .int 0 t1, .int 1 t2, .int 1 t3, .int 0 t4, .int 1 t5].drop (drawnOf ns).length) ([0, 0, 1, 1, 0, 1].drop (drawnOf ns).length) := fun t0 t1 t2 t3 t4 t5 => IntsAre.drop (.cons _ _ (.cons _ _ (.cons _ _ (.cons _ _ (.cons _ _ (.cons _ _ .nil)))))) _
              refine add_lists F₅ N₅ (vs := ys) ⟨_, (N₅ _ (.tail _ (.tail _ (.head _)))).1, rfl, _, rfl⟩ ⟨_, (N₅ _ (.head _)).1, rfl, _, rfl⟩ ?_ ?_
              rotate_left
              · rw [sizeLine, List.length_drop, hyl]; simp; omega
              intro h₆ F₆ N₆
              clear F₅ N₅
              dsimp only at N₆ ⊢
              obtain ⟨c0, c1, c2, c3, c4, c5, t0, t1, t2, t3, t4, t5, ev, en⟩ := six (hF.append (hsix _ _ _ _ _ _)) (cells_length ns)
              rw [ev] at N₆
              have en' : cellsOf ns = [c0, c1, c2, c3, c4, c5] := en
              have hc := cells_range ns
              rw [en'] at hc
              obtain ⟨k0, K0⟩ := hc c0 (by simp)
              obtain ⟨k1, K1⟩ := hc c1 (by simp)
              obtain ⟨k2, K2⟩ := hc c2 (by simp)
              obtain ⟨k3, K3⟩ := hc c3 (by simp)
              obtain ⟨k4, K4⟩ := hc c4 (by simp)
              obtain ⟨k5, K5⟩ := hc c5 (by simp)
              clear hc en ev hF hsix en' hyl hy6 hk hD hD' hDL hL hI hvl
              have N₇ := N₆.perm (fun p hp => (List.Sublist.cons_cons _ (.cons _ (.cons _ (.cons _ (.refl _))))).subset hp)
              clear N₆
              walk_at "mine steps"
              have hg0 : 2 + ([c0, c1, c2, c3, c4, c5].getD (Int.toNat 0) 0).fmod 2 = 2 + c0 % 2 := congrArg (2 + ·) (Int.fmod_eq_emod_of_nonneg c0 (by decide))
              generalize hkd : 2 + ([c0, c1, c2, c3, c4, c5].getD (Int.toNat 0) 0).fmod 2 = kinds at *
              clear hkd
              rename kinds = 2 + c0 % 2 => hkd
              walk1
              walk_at "mine steps"
              rename News _ _ _ _ => N₈
              rename Fr _ _ _ _ => F₈
              have hg1 : (([c0, c1, c2, c3, c4, c5].getD (Int.toNat 0) 0).fdiv 2).fmod 4 = c0 / 2 % 4 := by
                show (c0.fdiv 2).fmod 4 = c0 / 2 % 4
                rw [Int.fdiv_eq_ediv_of_nonneg c0 (by decide), Int.fmod_eq_emod_of_nonneg _ (by decide)]
              rw [hg1]
              refine KTb.item_tup (ws := menu) ⟨_, (N₈ _ (.head _)).1, rfl, _, rfl⟩ (.cons _ _ (.cons _ _ (.cons _ _ (.cons _ _ .nil)))) (by omega) (by show _ < (4 : Int); omega) (by omega) ?_ (by with_unfolding_all rfl)
              intro t6 _
              have hml : 3 = (menu.getD (c0 / 2 % 4).toNat Str.empty).length := by
                have : (c0 / 2 % 4).toNat = 0 ∨ (c0 / 2 % 4).toNat = 1 ∨ (c0 / 2 % 4).toNat = 2 ∨ (c0 / 2 % 4).toNat = 3 := by omega
                rcases this with e | e | e | e <;> rw [e] <;> decide +kernel
              generalize hwd : menu.getD (c0 / 2 % 4).toNat Str.empty = word at *
              have hk2 : 2 ≤ kinds := by omega
              have hk3 : kinds ≤ 3 := by omega
              walk_at "mine steps"
              obtain ⟨b, hb, eb⟩ : ∃ b : Nat, b < 2 ∧ c0 % 2 = (b : Int) := ⟨(c0 % 2).toNat, by omega, by omega⟩
              obtain ⟨j, hj, ej⟩ : ∃ j : Nat, j < 4 ∧ (c0 / 2 % 4).toNat = j := ⟨_, by omega, rfl⟩
              obtain ⟨z, hz, ez⟩ : ∃ z : Nat, z < 3 ∧ c0 / 8 % 3 = (z : Int) := ⟨(c0 / 8 % 3).toNat, by omega, by omega⟩
              rw [eb] at hkd
              rw [ej] at hwd
              have hlet : Txt.slice word none (some kinds) = lettersOf j b := by
                rw [← hwd, hkd]
                rfl
              rw [hlet]
              obtain ⟨hll, hdot⟩ := letters_good j hj b hb
              generalize hlt : lettersOf j b = letters at *
              rename News _ _ _ _ => N₉
              have N₁₀ := N₉.perm (fun p hp => (List.Sublist.cons _ (.refl _)).subset hp)
              clear N₉
              dsimp only [List.cons_append, List.nil_append] at N₁₀
              walk1
              walk_at "mine steps"
              have hg2 : 7 - kinds - (([c0, c1, c2, c3, c4, c5].getD (Int.toNat 0) 0).fdiv 8).fmod 3 = ((5 - b - z : Nat) : Int) := by
                show 7 - kinds - (c0.fdiv 8).fmod 3 = _
                rw [Int.fdiv_eq_ediv_of_nonneg c0 (by decide), Int.fmod_eq_emod_of_nonneg _ (by decide), ez, hkd]
                omega
              rw [hg2]
              generalize hsz : 5 - b - z = size at *
              have hs5 : size ≤ 5 := by omega
              have hs2 : 2 ≤ size := by omega
              walk1
              walk_at "mine steps"
              rename Fr _ _ _ _ => F₁₁
              rename News _ _ _ _ => N₁₁
              have hI2 : IntsAre ([Value.int c1 t1, .int c2 t2, .int c3 t3, .int c4 t4, .int c5 t5].take size) ([c1, c2, c3, c4, c5].take size) := IntsAre.take (.cons _ _ (.cons _ _ (.cons _ _ (.cons _ _ (.cons _ _ .nil))))) _
              have hcl : ([c1, c2, c3, c4, c5].take size).length = size := by rw [List.length_take]; simp; omega
              have hvl2 := hI2.length
              have hkk : kinds = ((2 + b : Nat) : Int) := by rw [hkd]; omega
              refine comp_eval (Fin := fun ys tk => ∃ T, T ≤ tk ∧ StrsAre ys ((([c1, c2, c3, c4, c5].take size).take ([Value.int c1 t1, .int c2 t2, .int c3 t3, .int c4 t4, .int c5 t5].take size).toArray.size).map fun c => Txt.item letters (c % kinds))) F₁₁.ns (by rfl) (by decide) (by rfl) (by decide) ?_ ?_
              · walk_at "mine steps"
                refine slice_list (s := ⟨_, _, _, _, _⟩) (lo := some ((1 : Nat) : Int)) (hi := some (((size + 1 : Nat)) : Int)) F₁₁ news_all ⟨_, (N₁₁ _ (.head _)).1, rfl, _, rfl⟩ (by constructor) (by constructor) ?_ (by with_unfolding_all rfl) (by intro _; with_unfolding_all rfl) (by show 6 ≤ sizeLine; decide)
                intro h₁₂ F₁₂ N₁₂
                rw [slicePick_run _ 1 (size + 1) (by show size + 1 ≤ 6; omega) (by omega)] at N₁₂
                have k₁₂ := kp_all F₁₁ F₁₂ N₁₂ (fun p hp => .tail _ hp)
                refine comp_list (items := ([Value.int c1 t1, .int c2 t2, .int c3 t3, .int c4 t4, .int c5 t5].take size).toArray) rfl F₁₁.ns k₁₂ ⟨_, (N₁₂ _ (.head _)).1, rfl, _, rfl⟩ (N₁₂ _ (.head _)).2.1 ?_ (by rfl) (by rfl) (fun i ys _ => StrsAre ys ((([c1, c2, c3, c4, c5].take size).take i).map fun c => Txt.item letters (c % kinds))) (fun _ _ => .nil) ?_
                · rw [List.size_toArray, hvl2, hcl, sizeLine]; omega
                · intro i v h₃ T₃ tk₃ ys C m₂ hi hJ hT hv hx hk hn hC
                  refine wpAny_tests_nil ?_
                  simp only [if_true]
                  obtain ⟨all, oC, N₁₃, mC, hoC, hall, kp⟩ := turn_led F₁₁ hk hn hC
                  have mA := hall _ _ (N₁₁ _ (.tail _ (.head _))).1 (N₁₁ _ (.tail _ (.head _))).2.1 (N₁₁ _ (.tail _ (.head _))).2.2
                  have mB := hall _ _ (N₁₁ _ (.tail _ (.tail _ (.head _)))).1 (N₁₁ _ (.tail _ (.tail _ (.head _)))).2.1 (N₁₁ _ (.tail _ (.tail _ (.head _)))).2.2
                  have F₁₃ := hk.fr F₁₁
                  generalize ([c1, c2, c3, c4, c5].take size) = cs at *
                  have hi2 : i < cs.length := by
                    rw [List.size_toArray, hvl2] at hi
                    exact hi
                  obtain ⟨tv, rfl⟩ : ∃ t, v = .int cs[i] t := by
                    obtain ⟨t, e⟩ := hI2.get i cs[i] (List.getElem?_eq_getElem hi2)
                    rw [List.getElem?_toArray, e] at hv
                    exact ⟨t, (Option.some.inj hv).symm⟩
                  have hup : cs.take (i + 1) = cs.take i ++ [cs[i]] := List.take_succ_eq_append_getElem hi2
                  generalize cs[i] = c at *
                  clear F₁₁ N₁₁ F₁₂ N₁₂
                  walk_at "mine steps"
                  have hfm : c.fmod kinds = c % kinds := Int.fmod_eq_emod_of_nonneg _ (by omega)
                  have hm0 : 0 ≤ c % kinds := Int.emod_nonneg _ (by omega)
                  have hm1 : c % kinds < kinds := Int.emod_lt_of_pos _ (by omega)
                  rw [hfm]
                  refine KXi.item (n := 2 + b) hll (by omega) (by omega) (by omega) ?_ (by with_unfolding_all rfl) (by intro _; with_unfolding_all rfl)
                  intro _
                  refine ⟨_, _, rfl, kp _ _ all (by assumption) (by assumption) (fun _ h => h), ?_⟩
                  rw [hup, List.map_append]
                  exact hJ.append' (.cons _ _ .nil)
              · intro D₂ h₁₂ tk₁₂ ys₂ hk₂ hD₂ hD₂' hF₂
                obtain ⟨_, _, hF₂⟩ := hF₂
                rw [show ([Value.int c1 t1, .int c2 t2, .int c3 t3, .int c4 t4, .int c5 t5].take size).toArray.size = size by rw [List.size_toArray, hvl2, hcl], List.take_of_length_le (Nat.le_of_eq hcl)] at hF₂
                have F₁₂ := hk₂.fr F₁₁
                have N₁₂ := news_cons hD₂' (ns_there F₁₁.ns hD₂) (not_yet F₁₁ hD₂) (hk₂.news N₁₁)
                have hyl2 : ys₂.length = size := by rw [hF₂.length, List.length_map, hcl]
                clear F₁₁ N₁₁ hI2 hvl2
                generalize hcs : ([c1, c2, c3, c4, c5].take size) = cs at *
                walk_at "mine steps"
                have hcd : ∃ d : List Nat, cs.map (fun c => Txt.item letters (c % kinds)) = d.map (fun i => emb letters [i]) ∧ d.length = size ∧ ∀ i ∈ d, i < 2 + b := by
                  refine ⟨cs.map fun c => (c % kinds).toNat, ?_, by rw [List.length_map, hcl], ?_⟩
                  · rw [List.map_map]
                    refine List.map_congr_left fun c _ => ?_
                    have hm0 : 0 ≤ c % kinds := Int.emod_nonneg _ (by omega)
                    have hm1 : c % kinds < kinds := Int.emod_lt_of_pos _ (by omega)
                    have := item_nat (letters := letters) (i := (c % kinds).toNat) (by omega)
                    rw [Int.toNat_of_nonneg hm0] at this
                    exact this
                  · intro i hi
                    obtain ⟨c, _, rfl⟩ := List.mem_map.mp hi
                    have hm0 : 0 ≤ c % kinds := Int.emod_nonneg _ (by omega)
                    have hm1 : c % kinds < kinds := Int.emod_lt_of_pos _ (by omega)
                    omega
                obtain ⟨d, hde, hdl, hdk⟩ := hcd
                rw [hde] at hF₂
                refine join_list (items := ys₂.toArray) ⟨_, (N₁₂ _ (.head _)).1, rfl, _, rfl⟩ hF₂ ?_ ?_
                · rw [emb_sum, List.length_map, show (Str.ofString "").length = 0 from rfl]; omega
                intro t₁₃ tk₁₃
                rw [join_emb]
                have htl : (emb letters d).length = size := by rw [emb_length, hdl]
                generalize htx : emb letters d = text at *
                have N₁₃ := N₁₂.perm (fun p hp => (List.Sublist.cons _ (.cons _ (.refl _))).subset hp)
                clear N₁₂ hF₂ hde
                walk1
                walk_at "mine steps"
                rename Fr _ _ _ _ => F₁₄
                rename News _ _ _ _ => N₁₄
                refine words_spec (G₀.keeps F₁₄.keep) ((hr _).less (by decide)) (by omega) hs5 hdot ?_
                intro lw h₁₅ tk₁₅ vw hk₁₅ hlw hlw' hsw
                have hwg := (words_good hdot size).2
                have hwb := (words_bound (letters := letters) (by omega) size).2
                have hp3 : 3 ^ size ≤ 243 := by
                  have : size = 2 ∨ size = 3 ∨ size = 4 ∨ size = 5 := by omega
                  rcases this with e | e | e | e <;> rw [e] <;> decide
                generalize hus : (wordsGo letters size).1 = us at *
                have F₁₅ := F₁₄.keeps hk₁₅
                obtain ⟨ow, how, hoc, nw, hod⟩ := hlw'
                have N₁₅ := news_cons how (ns_there F₁₄.ns hlw) (not_yet F₁₄ hlw) (N₁₄.grown hk₁₅)
                clear F₁₄ N₁₄ hk₁₅ hlw how
                walk_at "mine steps"
                rename Fr _ _ _ _ => F₁₆
                rename News _ _ _ _ => N₁₆
                refine told_spec (vs := vw) (us := us) (G₀.keeps F₁₆.keep) ((hr _).less (by decide)) ⟨ow, (N₁₆ _ (.head _)).1, hoc, nw, hod⟩ hsw (by omega) (by omega) (fun u hu => Nat.le_trans (hwg u hu).2.1 (by omega)) (fun u hu => ⟨fun q => ?_, (hwg u hu).2.2⟩) ?_
                · have h1 := (hwg u hu).1
                  have : u.length = u.cps.toList.length := by simp [Str.length]
                  rw [q] at this
                  simp at this
                  omega
                intro lt h₁₇ tk₁₇ hk₁₇ hlt₀ hlt'
                have F₁₇ := F₁₆.keeps hk₁₇
                have N₁₇ := news_cons hlt' (ns_there F₁₆.ns hlt₀) (not_yet F₁₆ hlt₀) (N₁₆.grown hk₁₇)
                clear F₁₆ N₁₆ hk₁₇ hlt₀ hlt'
                generalize hbs : (us.map fun u => u.cps.toList.isSublist text.cps.toList) = bs at *
                have hbs2 : (us.map fun u => Value.bool (u.cps.toList.isSublist text.cps.toList)) = bs.map Value.bool := by rw [← hbs, List.map_map]; rfl
                rw [hbs2] at N₁₇
                have hbl : bs.length = us.length := by rw [← hbs, List.length_map]
                clear hbs2
                walk_at "mine steps"
                rename Fr _ _ _ _ => F₁₈
                rename News _ _ _ _ => N₁₈
                refine comp_eval (Fin := fun ys tk => ∃ T, T ≤ tk ∧ ys = []) F₁₈.ns (by rfl) (by decide) (by rfl) (by decide) ?_ ?_
                · walk_at "mine steps"
                  refine comp_list (items := (bs.map Value.bool).toArray) rfl F₁₈.ns (Kp.of F₁₈.ns fun _ _ e => e) ⟨_, (N₁₈ _ (.head _)).1, rfl, _, rfl⟩ (N₁₈ _ (.head _)).2.1 ?_ (by rfl) (by rfl) (fun _ ys _ => ys = []) (fun _ _ => rfl) ?_
                  · rw [List.size_toArray, List.length_map, hbl, sizeLine]; omega
                  · intro i v h₃ T₃ tk₃ ys C m₂ hi hJ hT hv hx hk hn hC
                    obtain ⟨all, oC, N₁₉, mC, hoC, hall, kp⟩ := turn_led F₁₈ hk hn hC
                    have F₁₉ := hk.fr F₁₈
                    obtain ⟨bb, rfl⟩ : ∃ bb, v = .bool bb := by
                      rw [List.getElem?_toArray, List.getElem?_map] at hv
                      cases q : bs[i]? with
                      | none => rw [q] at hv; cases hv
                      | some x => rw [q] at hv; exact ⟨x, (Option.some.inj hv).symm⟩
                    clear F₁₈ N₁₈
                    refine wpAny_tests_one ?_
                    walk_at "mine steps"
                    exact ⟨_, _, rfl, kp _ _ all (by assumption) (by assumption) (fun _ h => h), hJ⟩
                · intro lf h₁₉ tk₁₉ yf hkf hlf hlf' hFf
                  obtain ⟨_, _, rfl⟩ := hFf
                  have F₁₉ := hkf.fr F₁₈
                  have N₁₉ := news_cons hlf' (ns_there F₁₈.ns hlf) (not_yet F₁₈ hlf) (hkf.news N₁₈)
                  clear F₁₈ N₁₈ hkf hlf hlf'
                  walk_at "mine steps"
                  have hul : ∀ u ∈ us, 1 ≤ u.length ∧ u.length ≤ 100 := fun u hu => ⟨(hwg u hu).1, Nat.le_trans (hwg u hu).2.1 (by omega)⟩
                  refine row_spec (vs := vw) (us := us) (bs := bs) (G₀.keeps F₁₉.keep) ((hr _).less (by decide)) (by show 1 ≤ tk + 1 + 1; omega) (by omega) (by omega) (by omega) (by omega) ⟨ow, (N₁₉ _ (.tail _ (.tail _ (.head _)))).1, hoc, nw, hod⟩ hsw (by omega) ⟨_, (N₁₉ _ (.tail _ (.head _))).1, rfl, _, rfl⟩ hbl hul ?_
                  intro lr h₂₀ tk₂₀ zs T₂₀ hk₂₀ hlr hlr' htok hT₂₀
                  have F₂₀ := F₁₉.keeps hk₂₀
                  have N₂₀ := news_cons hlr' (ns_there F₁₉.ns hlr) (not_yet F₁₉ hlr) (N₁₉.grown hk₂₀)
                  clear F₁₉ N₁₉ hk₂₀ hlr hlr'
                  walk_at "mine steps"
                  refine read_spec (G₀.keeps F₂₀.keep) ((hr _).less (by decide)) (by omega) (by omega) hs5 ⟨_, (N₂₀ _ (.head _)).1, rfl, _, rfl⟩ htok (by show T₂₀ ≤ tk₂₀; exact hT₂₀) (rowOf_length _ _ _) (rowOf_bound (by omega) (by omega) (Nat.le_trans (placesOf_length _ _ _ _) (by omega))) ?_
                  intro t₂₁ h₂₁ tk₂₁ hk₂₁
                  have F₂₁ := F₂₀.keeps hk₂₁
                  have N₂₁ := (N₂₀.grown hk₂₁).perm (fun p hp => (List.Sublist.cons _ (.refl _)).subset hp)
                  clear F₂₀ N₂₀ hk₂₁ htok
                  generalize hback : readOf letters (rowOf letters.length (placesOf letters (-1) us bs) letters.length) size = back at *
                  walk1
                  walk_at "mine steps"
                  rename Fr _ _ _ _ => F₂₂
                  rename News _ _ _ _ => N₂₂
                  refine row_spec (vs := vw) (us := us) (bs := bs) (G₀.keeps F₂₂.keep) ((hr _).less (by decide)) (by show 1 ≤ tk + 1; omega) (by omega) (by omega) (by omega) (by omega) ⟨ow, (N₂₂ _ (.tail _ (.tail _ (.head _)))).1, hoc, nw, hod⟩ hsw (by omega) ⟨_, (N₂₂ _ (.tail _ (.head _))).1, rfl, _, rfl⟩ hbl hul ?_
                  intro lr₂ h₂₃ tk₂₃ zs₂ T₂₃ hk₂₃ hlr₂ hlr₂' htok₂ hT₂₃
                  have F₂₃ := F₂₂.keeps hk₂₃
                  have N₂₃ := news_cons hlr₂' (ns_there F₂₂.ns hlr₂) (not_yet F₂₂ hlr₂) (N₂₂.grown hk₂₃)
                  clear F₂₂ N₂₂ hk₂₃ hlr₂ hlr₂'
                  walk_at "mine steps"
                  refine read_spec (G₀.keeps F₂₃.keep) ((hr _).less (by decide)) (by omega) (by omega) hs5 ⟨_, (N₂₃ _ (.head _)).1, rfl, _, rfl⟩ htok₂ (by show T₂₃ ≤ tk₂₃; exact hT₂₃) (rowOf_length _ _ _) (rowOf_bound (by omega) (by omega) (Nat.le_trans (placesOf_length _ _ _ _) (by omega))) ?_
                  intro t₂₄ h₂₄ tk₂₄ hk₂₄
                  have F₂₄ := F₂₃.keeps hk₂₄
                  have N₂₄ : News s.heap s.heap.objs.size h₂₄ [] := News.nil
                  clear F₂₃ N₂₃ hk₂₄ htok₂
                  generalize hahead : readOf letters (rowOf letters.length (placesOf letters 0 us bs) letters.length) size = ahead at *
                  walk1
                  walk_at "mine steps"
                  obtain ⟨hB, hA⟩ := law_pure (bs := bs) hj hb (by omega) (by omega) hdl hdk hlt hus (by rw [htx]; exact hbs)
                  rw [hB] at hback
                  rw [hA, htx] at hahead
                  have hbk : back.length = size := by rw [← hback, emb_length, List.length_reverse, hdl]
                  have hrev : ∀ u, Txt.sliceBy back none none (-1, u) = text := by
                    intro u
                    rw [← hback, rev_emb, htx]
                  subst hahead
                  rename Fr _ _ _ _ => F₂₅
                  rename News _ _ _ _ => N₂₅
                  refine slice_strK_nn (s := ⟨_, _, _, _, _⟩) F₂₅ N₂₅ (by decide) ?_ (by with_unfolding_all rfl) (by intro _; with_unfolding_all rfl) (by rw [sizeLine]; omega)
                  intro h₂₆ t₂₆ tk₂₆ F₂₆ N₂₆
                  rw [hrev]
                  clear F₂₅ N₂₅ hrev hback
                  have htt : (text == text) = true := by simp
                  walk_at "mine steps"
                  rw [htt]
                  first | (k_end; wrow_close) | wrow_close | (dsimp only; wrow_close)))
end Mine
end LawPart
theorem PySem.Challenge.cw_pg0079_01_holds : PySem.Challenge.rw_pg0079_01.Holds :=
  Mine.holds
