import PyProof.Rows.All
import Wide.All
import OpenK.AllK
import Wide.FinOn
import PySem.Challenge.RW_sw0005_01
set_option Elab.async false
section
open PySem PySem.W PyProof.Rows
namespace Mine
set_option maxRecDepth 100000 in
set_option maxHeartbeats 8000000 in
open_top hd for PySem.Challenge.rw_sw0005_01
end Mine
end
section
open PySem PySem.W PySem.Calls PyProof.Rows PySem.Spec
set_option maxRecDepth 100000
namespace Mine

abbrev Led := List (Addr × Obj)
abbrev PG : Program := PySem.Challenge.rw_sw0005_01.row.prog
noncomputable abbrev KK (w : World) : Frag := Mine.hd.heap_39 w.params

/-- what a body must end in: base `g`, the state `s` of the call -/
def End (g : Heap) (Post : Value → Led → Prop) (s : Shared) (v : Value) (s' : Shared) : Prop :=
  ∃ L' m' new h' tk', s' = { s with heap := h', toks := tk' } ∧ Fr g L' h' m' ∧ News g L' h' new ∧ Post v new

theorem End.intro {g : Heap} {Post : Value → Led → Prop} {s : Shared} {v : Value} {L' : Addr} {m' : Str → Option Value} {new : Led} {h' : Heap} {tk' : Nat}
    (F : Fr g L' h' m') (N : News g L' h' new) (hp : Post v new) : End g Post s v { s with heap := h', toks := tk' } :=
  ⟨L', m', new, h', tk', rfl, F, N, hp⟩

def Con (w : World) (p : Program) (loose : List Str) (mean : ExcName → Option Value) (mg mb : Str → Option Value) (f : Addr) (d : Nat) (Pre : Heap → Prop) (vs : List Value) (Post : Value → Led → Prop) : Prop :=
  ∀ (dp un : Nat) (gd : Option (List Code)) (cn : Str) (cs : Scope) (a : Addr) (ccd : Value) (cl : List (Str × Addr)) (outer : List Env) (A₀ : Around) (base h₀ : Heap) (L : Addr) (m : Str → Option Value) (news : Led) (s : Shared)
    (Q E : Value → Shared → Prop),
    Below A₀ base outer h₀ → Fr h₀ L s.heap m → (KK w).In h₀ → News h₀ L s.heap news → Top p loose mean mg mb h₀ → cs.kind = .function → dp + d < recursionLimit → un + 8 * d < cLine → Pre s.heap →
    (∀ r new h' tk', Fr h₀ L h' m → News h₀ L h' (new ++ news) → (∀ q ∈ new, ∀ p ∈ news, p.1 ≠ q.1) → Post r new → Q r { s with heap := h', toks := tk' }) →
    wpAny (model PG w) (ktrTop dp un gd cn cs L a ccd cl outer) (call (.ref f) vs) Q E s

theorem enter0 {w : World} {p : Program} {loose : List Str} {mean : ExcName → Option Value} {mg mb : Str → Option Value} {A₀ A : Around} {base h₀ : Heap} {outer : List Env} {env : Env} {L : Addr} {m : Str → Option Value} {news : Led} {s : Shared} {K : Frag}
    {Q E : Value → Shared → Prop} {Post : Value → Led → Prop} {name qual : Str} {params : Arguments} {body : List Stmt} {scope : Scope} {dV kV doc pm cdv ct oc : Value} {an od : Option Addr} {osl : Array (Option Value)} {f : Addr} {vs : List Value} {binds : List (Str × Value)}
    (B : Below A₀ base outer h₀) (F : Fr h₀ L s.heap m) (X₀ : K.In h₀) (N : News h₀ L s.heap news) (T : Top p loose mean mg mb h₀) (hA : A.frames = some (env :: outer)) (hf : env.frame = some L) (hke : env.scope.kind = .function)
    (ho : K.lookup f = some ⟨oc, od, .func (fnOf name qual params body scope dV kV doc pm an cdv ct), osl⟩) (hcd : codeIn K cdv qual = true) (hroom : A.depth < recursionLimit)
    (hbind : BindsTo s (fnOf name qual params body scope dV kV doc pm an cdv ct) ⟨vs, []⟩ binds) (hloc : ∀ y ∈ binds, scope.names.lookup y.1 = some .local)
    (ret : ∀ r new h' tk', Fr h₀ L h' m → News h₀ L h' (new ++ news) → (∀ q ∈ new, ∀ p ∈ news, p.1 ≠ q.1) → Post r new → Q r { s with heap := h', toks := tk' })
    (hco : scope.isCoroutine = false) (hgen : scope.isGenerator = false) (hk : scope.kind = .function) (hcell : ∀ x ∈ scope.names, x.2 ≠ .cell)
    (h : ∀ g L' h₁ tk, g = s.heap → Fr g L' h₁ (fun y => binds.reverse.lookup y) → News g L' h₁ [] → Below A base (env :: outer) g → K.In g → Top p loose mean mg mb g →
      wpAny (model PG w) (A.deeper (envOf qual scope L' f cdv)) (execs body (envOf qual scope L' f cdv))
        (fun fl s' => End g Post s (match fl with | .ret v => v | _ => .none) s') (fun _ _ => False) { s with heap := h₁, toks := tk }) :
    wpAny (model PG w) A (call (.ref f) vs) Q E s := by
  refine wpAny_call ?_
  refine codeAny_call_def (fd := fnOf name qual params body scope dV kV doc pm an cdv ct) (body := body) (binds := binds) hroom ((X₀.keeps F.keep) _ _ ho) rfl (T.nolimit.keeps F.keep) (codeRec_of (X₀.keeps F.keep) hcd) rfl hbind hcell hloc (fun h₁ hns hk₁ => ?_) hco hgen hk
  refine wpAny_mono (h s.heap s.heap.objs.size h₁ _ rfl ⟨hns, hk₁, Nat.le_refl _⟩ .nil ⟨hA, (pushX B F hf hke).stays, (pushX B F hf hke).frames⟩ (X₀.keeps F.keep) (T.keeps F.keep)) (fun fl s' he => ?_) fun _ _ x => x.elim
  obtain ⟨L', m', new, h', tk', rfl, F', N', hp⟩ := he
  obtain ⟨oL, es, ep, hL, hLd, hLk, hLf⟩ := F.ns
  refine ret _ new h' tk' ⟨⟨oL, es, ep, F'.keep _ _ hL, hLd, hLk, hLf⟩, fun b o e => F'.keep b o (F.keep b o e), F.above⟩ (fun q hq => ?_) (fun q hq p' hp' e => ?_) hp
  · rcases List.mem_append.mp hq with hq | hq
    · refine ⟨(N' q hq).1, fun e => ?_, ?_⟩
      · have := (N' q hq).2.2; rw [e, hL] at this; cases this
      · cases e : h₀.get? q.1 with
        | none => rfl
        | some o => have := (N' q hq).2.2; rw [F.keep _ _ e] at this; cases this
    · exact ⟨F'.keep _ _ (N q hq).1, (N q hq).2⟩
  · have := (N' q hq).2.2; rw [← e, (N p' hp').1] at this; cases this

end Mine
end
section
open PySem PySem.W PySem.Calls PyProof.Rows PySem.Spec
set_option maxRecDepth 100000
namespace Mine
open PySem (wpAny)

local macro_rules | `(tactic| walk_at "mine wp") => `(tactic| (first
  | with_reducible (first
      | refine PySem.wpAny_pure ?_ | refine PySem.wpAny_bind ?_ | refine PySem.wpAny_holding ?_ | refine PySem.wpAny_of_eq (by assumption) ?_ | refine PySem.wpAny_typeOf (by assumption) ?_
      | refine PySem.wpAny_standAt ?_ | refine PySem.wpAny_point ?_ | refine PySem.wpAny_rule ?_
      | refine PySem.wpAny_letGo ?_ | refine PySem.wpAny_mkInt' ?_ | refine PySem.wpAny_mkStr' ?_ | refine PySem.wpAny_fresh' ?_ | refine PySem.wpAny_alloc' ?_ | refine PySem.wpAny_attempt ?_
      | refine PySem.wpAny_throw ?_
      | refine PySem.wpAny_specialOf_val (by assumption) (by assumption) ?_ | refine PySem.wpAny_specialOf (by assumption) (by assumption) ?_
      | refine PySem.wpAny_isInstance_val (by assumption) (by assumption) ?_ | refine PySem.wpAny_isInstance (by assumption) (by assumption) ?_
      | refine PySem.wpAny_call ?_ | refine PySem.wpAny_runValue ?_ | refine PySem.wpAny_run ?_)
  | wp_delta
  | ((with_reducible apply PySem.wpAny_ite_false); focus (rfl; done))
  | ((with_reducible apply PySem.wpAny_ite_true); focus (rfl; done))
  | ((with_reducible apply PySem.wpAny_ite_false); focus (simp [*]; done))
  | ((with_reducible apply PySem.wpAny_ite_true); focus (simp [*]; done))
  | with_reducible_and_instances refine PySem.wpAny_pure ?_
  | with_reducible_and_instances refine PySem.wpAny_bind ?_))

namespace HA
theorem kind : builtinKind "hasattr" = none := by decide +kernel
theorem plain : plainId "hasattr" = true := by decide +kernel
theorem entry : entryFor table "hasattr" = some Builtin.«hasattr» := entryFor_of_tree (by kernel_rfl)
theorem args (a b : Value) : argsOk "hasattr" ⟨[a, b], []⟩ := by unfold argsOk; kernel_rfl
theorem lk_getitem : typeLookup (.type "str") "__getitem__" = pure (some (.builtin "str.__getitem__")) := by rw [typeLookup_type, builtinLookup_eq_fast]; kernel_rfl
theorem ty_getitem : typeOf (.builtin "str.__getitem__") = pure (.type "wrapper_descriptor") := by kernel_rfl
theorem slot_wd_get : Slot "wrapper_descriptor" "__get__" "wrapper_descriptor.__get__" :=
  .of (owner := "wrapper_descriptor") (n := "__get__") (by rw [typeLookup_type, builtinLookup_eq_fast]; kernel_rfl) (by decide +kernel) (by decide +kernel) (by decide +kernel)
    (by first | exact .inl (by decide +kernel) | exact .inr (by decide +kernel)) (by rw [isSubtype_type]; kernel_rfl)
theorem entry_wd_get : entryFor table "wrapper_descriptor.__get__" = some Builtin.«wrapper_descriptor.__get__» := entryFor_of_tree (by kernel_rfl)
theorem args_wd_get (a b c : Value) : argsOk "wrapper_descriptor.__get__" ⟨[a, b, c], []⟩ := by unfold argsOk; kernel_rfl
theorem lk_wd_set : typeLookup (.type "wrapper_descriptor") "__set__" = pure none := by rw [typeLookup_type, builtinLookup_eq_fast]; kernel_rfl
theorem lk_wd_del : typeLookup (.type "wrapper_descriptor") "__delete__" = pure none := by rw [typeLookup_type, builtinLookup_eq_fast]; kernel_rfl
theorem owner_getitem : (".".intercalate ("str.__getitem__".cutAt '.').dropLast) = "str" := by
  have e0 : "str.__getitem__".cutAt '.' = ["str", "__getitem__"] := by first | rfl | decide +kernel
  rw [e0]; decide +kernel
theorem sub_own : isSubtype (.type "str") (.type (".".intercalate ("str.__getitem__".cutAt '.').dropLast)) = pure true := by
  rw [owner_getitem, isSubtype_type]; kernel_rfl
end HA

section
variable {prog : Program} {w : World} {A : Around} {E : Value → Shared → Prop} {h : Heap} {g : Array GenState} {d : Drawn} {t : Nat} {os : OsState} {x : Str} {u tk : Tok}

set_option pp.maxSteps 3000
theorem has_get {R : Result → Shared → Prop} (hq : ∀ o : Obj, o.isFreed = false → R (.ok (.ret (.ref h.objs.size))) ⟨h.push o, g, d, t, os⟩) :
    codeAny (model prog w) A (.call (.builtin "wrapper_descriptor.__get__") ⟨[.builtin "str.__getitem__", .str x u, .type "str"], []⟩) R ⟨h, g, d, t, os⟩ := by
  have hT : (⟨h, g, d, t, os⟩ : Shared).TypeIs (.str x u) "str" := rfl
  have hT5 : (⟨h, g, d, t, os⟩ : Shared).TypeIs (.builtin "str.__getitem__") "wrapper_descriptor" := HA.ty_getitem
  have f8 := HA.sub_own
  refine codeAny_call_builtin HA.slot_wd_get.plain HA.entry_wd_get (HA.slot_wd_get.check _ _ _ _ _ _ _ _ hT5 (HA.args_wd_get _ _ _) ?_)
  repeat walk_at "mine wp"
  exact hq _ rfl

theorem has_entry {Q : Fin → Shared → Prop} (hq : ∀ o : Obj, o.isFreed = false → Q (.done (.ret (.ref h.objs.size))) ⟨h.push o, g, d, t, os⟩) :
    wpAny (model prog w) A (Builtin.«object.__getattribute__» ⟨[.str x u, .str "__getitem__" tk], []⟩) Q E ⟨h, g, d, t, os⟩ := by
  have hT : (⟨h, g, d, t, os⟩ : Shared).TypeIs (.str x u) "str" := rfl
  have hT5 : (⟨h, g, d, t, os⟩ : Shared).TypeIs (.builtin "str.__getitem__") "wrapper_descriptor" := HA.ty_getitem
  have f4 := HA.lk_getitem
  have f5 := HA.ty_getitem
  have f6 := HA.slot_wd_get.lookup
  have f7 := HA.lk_wd_set
  have f8 := HA.lk_wd_del
  repeat walk_at "mine wp"
  exact has_get fun o ho => wpAny_pure (hq o ho)

theorem has_call {R : Result → Shared → Prop} (hq : ∀ o : Obj, o.isFreed = false → R (.ok (.ret (.ref h.objs.size))) ⟨h.push o, g, d, t, os⟩) :
    codeAny (model prog w) A (.call (.builtin "object.__getattribute__") ⟨[.str x u, .str "__getitem__" tk], []⟩) R ⟨h, g, d, t, os⟩ :=
  codeAny_call_builtin F.slot_str_getattribute.plain F.entry_object_getattribute (F.slot_str_getattribute.check _ _ _ _ _ _ _ _ (show (⟨h, g, d, t, os⟩ : Shared).TypeIs (.str x u) "str" from rfl) (F.args_object_getattribute_2 _ _) (has_entry hq))

set_option maxHeartbeats 2000000 in
theorem hasattr_str {s : Shared} {Q : Value → Shared → Prop} (hq : ∀ o : Obj, o.isFreed = false → Q (.bool true) { s with heap := s.heap.push o }) :
    wpAny (model prog w) A (call (.builtin "hasattr") [.str x u, .str "__getitem__" tk]) Q E s := by
  obtain ⟨h, g, d, t, os⟩ := s
  refine Calls.call_function_entry HA.kind HA.plain HA.entry (HA.args _ _) ?_
  have hT : (⟨h, g, d, t, os⟩ : Shared).TypeIs (.str x u) "str" := rfl
  have f4 := HA.lk_getitem
  have f2 := F.slot_str_getattribute.lookup
  have f3 := F.slot_str_getattribute.bind (.str x u)
  unfold Builtin.«hasattr»
  refine wpAny_bind (wpAny_of_eq (a := [.str x u, .str "__getitem__" tk]) (by kernel_rfl) ?_)
  dsimp only
  refine wpAny_bind (wpAny_of_eq (a := ()) (by kernel_rfl) ?_)
  repeat walk_at "mine wp"
  refine has_call fun o ho => ?_
  repeat walk_at "mine wp"

  exact ⟨_, rfl, hq o ho⟩
end
end Mine
end
section
open PySem PySem.W PySem.Calls PyProof.Rows PySem.Spec
set_option maxRecDepth 100000
namespace Mine
variable {w : World} {p : Program} {loose : List Str} {mean : ExcName → Option Value} {mg mb : Str → Option Value}

theorem hasattr_N {prog : Program} {A : Around} {E : Value → Shared → Prop} {s : Shared} {h₀ : Heap} {L : Addr} {m : Str → Option Value} {news : List (Addr × Obj)} {x : Str} {u tk : Tok} {Q : Value → Shared → Prop}
    (F : Fr h₀ L s.heap m) (N : News h₀ L s.heap news) (h : ∀ h', Fr h₀ L h' m → News h₀ L h' news → Q (.bool true) { s with heap := h' }) :
    wpAny (model prog w) A (call (.builtin "hasattr") [.str x u, .str "__getitem__" tk]) Q E s :=
  hasattr_str fun o ho => h _ (F.push o) (fun p hp => (N.push F o ho) p (.tail _ hp))
local macro_rules | `(tactic| walk_at "call builtin:hasattr") => `(tactic| (k_here; k_dflt (refine' hasattr_N ?k1 ?k2 ?_; (case k1 => k_asm); (case k2 => k_asm); k_whole; intro h' F' N')))
set_option pp.deepTerms false
set_option pp.maxSteps 5000
set_option maxHeartbeats 4000000
theorem con_concat (x y : Str) (tx ty : Tok) (hs : x.length + y.length ≤ sizeLine) :
    Con w p loose mean mg mb 59 12 (fun _ => True) [.str x tx, .str y ty] (fun v new => (∃ t, v = .str (x ++ y) t) ∧ new = []) := by
  intro dp un gd cn cs a ccd cl outer A₀ base h₀ L m news s Q E B F X N T hk hd hu hp hret
  dsimp only [PG, KK] at *
  k_dflt (refine' enter0 B F X N T (A := ktrTop dp un gd cn cs L a ccd cl outer) (env := envX cn cs L a ccd cl) (binds := [(Str.ofString "a", .str x tx), (Str.ofString "b", .str y ty)]) rfl rfl hk ?k6 ?k7 ?k8 ?k9 ?kB hret ?c2 ?c3 ?c4 ?c5 ?_)
  (case k6 => k_is); (case k7 => k_is); (case k8 => exact Nat.lt_of_le_of_lt (Nat.le_add_right _ _) hd); (case k9 => exact BindsTo.of_eq rfl); (case c5 => decide); (case kB => exact locs rfl); (case c2 => exact rfl); (case c3 => exact rfl); (case c4 => exact rfl); k_whole
  clear B F X N T hret
  intro g L' h' tk' hg F' N' B' X' T'; (try dsimp only); (try k_fold)
  k_steps
  exact End.intro (by assumption) (by assumption) ⟨⟨_, rfl⟩, rfl⟩

theorem con_add (x y : Int) (tx ty : Tok) (hx : x.natAbs < 10 ^ 9) (hy : y.natAbs < 10 ^ 9) :
    Con w p loose mean mg mb 45 12 (fun _ => True) [.int x tx, .int y ty] (fun v new => (∃ t, v = .int (x + y) t) ∧ new = []) := by
  intro dp un gd cn cs a ccd cl outer A₀ base h₀ L m news s Q E B F X N T hk hd hu hp hret
  dsimp only [PG, KK] at *
  k_dflt (refine' enter0 B F X N T (A := ktrTop dp un gd cn cs L a ccd cl outer) (env := envX cn cs L a ccd cl) (binds := [(Str.ofString "a", .int x tx), (Str.ofString "b", .int y ty)]) rfl rfl hk ?k6 ?k7 ?k8 ?k9 ?kB hret ?c2 ?c3 ?c4 ?c5 ?_)
  (case k6 => k_is); (case k7 => k_is); (case k8 => exact Nat.lt_of_le_of_lt (Nat.le_add_right _ _) hd); (case k9 => exact BindsTo.of_eq rfl); (case c5 => decide); (case kB => exact locs rfl); (case c2 => exact rfl); (case c3 => exact rfl); (case c4 => exact rfl); k_whole
  clear B F X N T hret
  intro g L' h' tk' hg F' N' B' X' T'; (try dsimp only); (try k_fold)
  k_steps
  exact End.intro (by assumption) (by assumption) ⟨⟨_, rfl⟩, rfl⟩

theorem con_neg (x : Int) (tx : Tok) (hx : x.natAbs < 10 ^ 9) :
    Con w p loose mean mg mb 52 12 (fun _ => True) [.int x tx] (fun v new => (∃ t, v = .int (-x) t) ∧ new = []) := by
  intro dp un gd cn cs a ccd cl outer A₀ base h₀ L m news s Q E B F X N T hk hd hu hp hret
  dsimp only [PG, KK] at *
  k_dflt (refine' enter0 B F X N T (A := ktrTop dp un gd cn cs L a ccd cl outer) (env := envX cn cs L a ccd cl) (binds := [(Str.ofString "a", .int x tx)]) rfl rfl hk ?k6 ?k7 ?k8 ?k9 ?kB hret ?c2 ?c3 ?c4 ?c5 ?_)
  (case k6 => k_is); (case k7 => k_is); (case k8 => exact Nat.lt_of_le_of_lt (Nat.le_add_right _ _) hd); (case k9 => exact BindsTo.of_eq rfl); (case c5 => decide); (case kB => exact locs rfl); (case c2 => exact rfl); (case c3 => exact rfl); (case c4 => exact rfl); k_whole
  clear B F X N T hret
  intro g L' h' tk' hg F' N' B' X' T'; (try dsimp only); (try k_fold)
  k_steps
  exact End.intro (by assumption) (by assumption) ⟨⟨_, rfl⟩, rfl⟩

theorem con_contains (l : Addr) (vs : List Value) (ss : List Str) (y : Str) (ty : Tok) (hi : StrsAre vs ss) :
    Con w p loose mean mg mb 66 12 (fun h => h.IsList l vs.toArray) [.ref l, .str y ty] (fun v new => v = .bool (ss.any (· == y)) ∧ new = []) := by
  intro dp un gd cn cs a ccd cl outer A₀ base h₀ L m news s Q E B F X N T hk hd hu hp hret
  dsimp only [PG, KK] at *
  k_dflt (refine' enter0 B F X N T (A := ktrTop dp un gd cn cs L a ccd cl outer) (env := envX cn cs L a ccd cl) (binds := [(Str.ofString "a", .ref l), (Str.ofString "b", .str y ty)]) rfl rfl hk ?k6 ?k7 ?k8 ?k9 ?kB hret ?c2 ?c3 ?c4 ?c5 ?_)
  (case k6 => k_is); (case k7 => k_is); (case k8 => exact Nat.lt_of_le_of_lt (Nat.le_add_right _ _) hd); (case k9 => exact BindsTo.of_eq rfl); (case c5 => decide); (case kB => exact locs rfl); (case c2 => exact rfl); (case c3 => exact rfl); (case c4 => exact rfl); k_whole
  clear B F X N T hret
  intro g L' h' tk' hg F' N' B' X' T'; (try dsimp only); (try k_fold)
  subst hg
  k_steps
  exact End.intro (by assumption) (by assumption) ⟨rfl, rfl⟩
end Mine
end
section
open PySem PySem.W PySem.Calls PyProof.Rows PySem.Spec
set_option maxRecDepth 100000
namespace Mine
variable {w : World} {p : Program} {loose : List Str} {mean : ExcName → Option Value} {mg mb : Str → Option Value}

open PySem.Builtin PySem.Builtin.Str in
theorem gives_find4 (x y : Str) (i j : Int) (t u v v' : Tok) : Gives («str.find» ⟨[.str x t, .str y u, .int i v, .int j v'], []⟩) (.int (match occurrences x y (fromIndex x.length i) (min (fromIndex x.length j) x.length) 1 with | k :: _ => (k : Int) | [] => -1)) := by
  show Gives (match occurrences x y (fromIndex x.length i) (min (fromIndex x.length j) x.length) 1 with | k :: _ => retInt k | [] => (do rule "str.find.not-found"; retInt (-1))) _
  cases occurrences x y (fromIndex x.length i) (min (fromIndex x.length j) x.length) 1 with
  | nil => exact .rule (.of_eq rfl)
  | cons k _ => exact .of_eq rfl
def find4 (x y : Str) (i j : Int) : Int := match Builtin.Str.occurrences x y (fromIndex x.length i) (min (fromIndex x.length j) x.length) 1 with | k :: _ => (k : Int) | [] => -1
section
variable {prog : Program} {A : Around} {E : Value → Shared → Prop} {s : Shared} {h₀ : Heap} {L : Addr} {m : Str → Option Value} {news : List (Addr × Obj)} {x y a b c : Str} {t u v v' : Tok} {i j : Int} {Q : Value → Shared → Prop}
theorem find4_call (hq : Q (.int (find4 x y i j) s.toks) { s with toks := s.toks + 1 }) : wpAny (model prog w) A (call (.builtin "str.find") [.str x t, .str y u, .int i v, .int j v']) Q E s :=
  call_gives F.slot_str_find (typeIs_str _ _ _) F.entry_str_find (F.args_str_find_4 _ _ _ _) (gives_find4 x y i j t u v v') hq
theorem split3_call (hF : Fr h₀ L s.heap m) (hN : News h₀ L s.heap news) (hy : (y.length == 0) = false) (hs : Txt.split x y = [a, b, c])
    (h : ∀ l t₁ t₂ t₃ h' k, Fr h₀ L h' m → News h₀ L h' ((l, listOf #[.str a t₁, .str b t₂, .str c t₃] 0) :: news) → (∀ p ∈ news, p.1 < l) → Q (.ref l) { s with heap := h', toks := k })
    (hsz : x.length + 2 ≤ sizeLine) : wpAny (model prog w) A (call (.builtin "str.split") [.str x t, .str y u]) Q E s := by
  refine splitN1 (hsz := hsz) hF hN hy fun l h' k e F N => ?_
  rw [hs] at e
  match l, e with
  | [(a', t₁), (b', t₂), (c', t₃)], e =>
    simp only [List.map_cons, List.map_nil, List.cons.injEq, and_true] at e
    obtain ⟨rfl, rfl, rfl⟩ := e
    exact h _ t₁ t₂ t₃ h' k F N (fun p hp => Heap.lt_size (hN p hp).1)
end
local macro_rules | `(tactic| walk_at "call builtin:str.find") => `(tactic| refine find4_call ?_)
local macro_rules | `(tactic| walk_at "call builtin:str.split") => `(tactic| (k_here; k_dflt (refine' split3_call ?k1 ?k2 (by decide) ?k3 ?_ ?k4; (case k1 => k_asm); (case k2 => k_asm); (case k3 => assumption); (case k4 => omega); k_whole; intro l' t1' t2' t3' h' k' F' N' l1; (try k_lt l1))))

set_option pp.deepTerms false
set_option pp.maxSteps 8000
set_option maxHeartbeats 4000000
theorem con_em (want got a b c : Str) (tx ty : Tok) (hocc : (Builtin.Str.occurrences want (Str.ofString "...") 0 want.length 1).isEmpty = false)
   (hs : Txt.split want (Str.ofString "...") = [a, b, c]) (hw : want.length < 1000) (hg' : got.length < 1000) (hb : b.length < 1000) (ha : ((a.length : Nat) : Int) ≠ 0) (hc : ((c.length : Nat) : Int) ≠ 0) (hsw : Txt.startswith got a = true) (hew : Txt.endswith got c = true) (hle : a.length + c.length ≤ got.length) :
    Con w p loose mean mg mb 38 12 (fun _ => True) [.str want tx, .str got ty] (fun v new => v = .bool (decide (0 ≤ find4 got b a.length (got.length - c.length))) ∧ new = []) := by
  have hsz := sizeLine_eq
  intro dp un gd cn cs a ccd cl outer A₀ base h₀ L m news s Q E B F X N T hk hd hu hp hret
  dsimp only [PG, KK] at *
  k_dflt (refine' enter0 B F X N T (A := ktrTop dp un gd cn cs L a ccd cl outer) (env := envX cn cs L a ccd cl) (binds := [(Str.ofString "want", .str want tx), (Str.ofString "got", .str got ty)]) rfl rfl hk ?k6 ?k7 ?k8 ?k9 ?kB hret ?c2 ?c3 ?c4 ?c5 ?_)
  (case k6 => k_is); (case k7 => k_is); (case k8 => exact Nat.lt_of_le_of_lt (Nat.le_add_right _ _) hd); (case k9 => exact BindsTo.of_eq rfl); (case c5 => decide); (case kB => exact locs rfl); (case c2 => exact rfl); (case c3 => exact rfl); (case c4 => exact rfl); k_whole
  clear B F X N T hret
  intro g L' h' tk' hg F' N' B' X' T'; (try dsimp only); (try k_fold)
  k_steps
  all_goals first
    | (exfalso; omega)
    | (refine End.intro (by assumption) .nil ⟨congrArg Value.bool (Eq.symm ?_), rfl⟩
       first
         | exact decide_eq_false (by omega)
         | exact decide_eq_true (by omega))
end Mine
end
section
open PySem PySem.Sre
set_option maxRecDepth 100000
namespace Mine
def C1 : Array Nat := #[14, 4, 0, 1, 1, 6, 1, 16, 46, 1]
def C2 : Array Nat := #[14, 9, 4, 1, 2, 16, 10, 16, 13, 0, 7, 7, 16, 13, 16, 10, 15, 18, 5, 16, 10, 15, 13, 11, 16, 13, 5, 5, 0, 16, 10, 1, 15, 2, 0, 1]

structure Is (code text : Array Nat) (lim s : Nat) (m : M) (pc pos : Nat) (out : Bool) (fr : List Sre.Frame) (ans : Option Bool) (hd : Nat) : Prop where
  hcode : m.code = code
  htext : m.text = text
  hlim : m.lim = lim
  hstart : m.start = s
  hls : m.lastStart = lim
  hwt : m.wholeText = false
  hma : m.mustAdvance = false
  hpc : m.pc = pc
  hpos : m.pos = pos
  hout : m.outermost = out
  hlm : m.lastmark = -1
  hli : m.lastindex = -1
  hin : m.inner = none
  hfr : m.frames = fr
  hw : m.weight = fr.length
  hans : m.answer = ans
  hh : ans = some true → m.handed = hd
  ho : m.outcome = none

abbrev fB (pc pos : Nat) (out : Bool) : Sre.Frame := { wait := .nextBranch, pc, pos, outermost := out }
abbrev fS (pc pos : Nat) (out : Bool) : Sre.Frame := { wait := .nextStart, pc, pos, outermost := out }
abbrev fL (pc pos : Nat) (out : Bool) : Sre.Frame := { wait := .lookNot, pc, pos, outermost := out }

section
variable {code text : Array Nat} {lim s : Nat} {m : M} {pc pos hd : Nat} {out : Bool} {fr : List Sre.Frame}

theorem st_lit_ok (h : Is code text lim s m pc pos out fr none hd) (hz : pc < code.size) (h1 : code.getD pc 0 = 16) (h2 : code.getD (pc + 1) 0 = text.getD pos 0) (hp : pos < lim) :
    Is code text lim s m.step (pc + 2) (pos + 1) out fr none hd := by
  obtain ⟨a1, a2, a3, a4, a5, a6, a7, a8, a9, a10, a11, a12, a13, a14, a15, a16, a17, a18⟩ := h
  obtain ⟨code', text', lim', start', lastStart', wholeText', mustAdvance', pc', pos', handed', outermost', marks', lastmark', lastindex', loops', inner', frames', weight', answer', seen', outcome'⟩ := m
  dsimp only at *
  subst a1 a2 a3 a4 a5 a6 a7 a8 a9 a10 a11 a12 a13 a14 a15 a16 a18
  have hl := Nat.not_le.mpr hp
  constructor <;> simp [-Array.getD_eq_getD_getElem?, M.step, M.exec, M.word, h1, ops, accepts, itemWidth, h2, hl, hz]

theorem st_lit_no (h : Is code text lim s m pc pos out fr none hd) (hz : pc < code.size) (h1 : code.getD pc 0 = 16) (h2 : pos < lim → code.getD (pc + 1) 0 ≠ text.getD pos 0) :
    Is code text lim s m.step pc pos out fr (some false) hd := by
  obtain ⟨a1, a2, a3, a4, a5, a6, a7, a8, a9, a10, a11, a12, a13, a14, a15, a16, a17, a18⟩ := h
  obtain ⟨code', text', lim', start', lastStart', wholeText', mustAdvance', pc', pos', handed', outermost', marks', lastmark', lastindex', loops', inner', frames', weight', answer', seen', outcome'⟩ := m
  dsimp only at *
  subst a1 a2 a3 a4 a5 a6 a7 a8 a9 a10 a11 a12 a13 a14 a15 a16 a18
  by_cases hl : lastStart' ≤ pos'
  · constructor <;> simp [-Array.getD_eq_getD_getElem?, M.step, M.exec, M.word, h1, ops, accepts, itemWidth, hl, hz, M.say]
  · have h3 : (text'.getD pos' 0 == code'.getD (pc' + 1) 0) = false := by
      rw [beq_eq_false_iff_ne]; exact fun e => h2 (by omega) e.symm
    constructor <;> simp [-Array.getD_eq_getD_getElem?, M.step, M.exec, M.word, h1, ops, accepts, itemWidth, h3, hl, hz, M.say]

theorem st_jump (h : Is code text lim s m pc pos out fr none hd) (hz : pc < code.size) (h1 : code.getD pc 0 = 15) :
    Is code text lim s m.step (pc + 1 + code.getD (pc + 1) 0) pos out fr none hd := by
  obtain ⟨a1, a2, a3, a4, a5, a6, a7, a8, a9, a10, a11, a12, a13, a14, a15, a16, a17, a18⟩ := h
  obtain ⟨code', text', lim', start', lastStart', wholeText', mustAdvance', pc', pos', handed', outermost', marks', lastmark', lastindex', loops', inner', frames', weight', answer', seen', outcome'⟩ := m
  dsimp only at *
  subst a1 a2 a3 a4 a5 a6 a7 a8 a9 a10 a11 a12 a13 a14 a15 a16 a18
  constructor <;> simp [-Array.getD_eq_getD_getElem?, M.step, M.exec, M.word, h1, ops, hz]

theorem st_branch (h : Is code text lim s m pc pos out fr none hd) (hz : pc < code.size) (h1 : code.getD pc 0 = 7) (h2 : code.getD (pc + 1) 0 ≠ 0) (hf : fr.length < 100) :
    Is code text lim s m.step (pc + 2) pos out (fB (pc + 1) pos out :: fr) none hd := by
  obtain ⟨a1, a2, a3, a4, a5, a6, a7, a8, a9, a10, a11, a12, a13, a14, a15, a16, a17, a18⟩ := h
  obtain ⟨code', text', lim', start', lastStart', wholeText', mustAdvance', pc', pos', handed', outermost', marks', lastmark', lastindex', loops', inner', frames', weight', answer', seen', outcome'⟩ := m
  dsimp only at *
  subst a1 a2 a3 a4 a5 a6 a7 a8 a9 a10 a11 a12 a13 a14 a15 a16 a18
  have hl : ¬ (16777216 < frames'.length + 1) := by omega
  constructor <;> simp [-Array.getD_eq_getD_getElem?, M.step, M.exec, M.word, h1, ops, hz, M.alternative, h2, M.attempt, M.frame, M.keep, hl]

theorem st_assert_not (h : Is code text lim s m pc pos out fr none hd) (hz : pc < code.size) (h1 : code.getD pc 0 = 5) (h2 : code.getD (pc + 2) 0 = 0) (hf : fr.length < 100) :
    Is code text lim s m.step (pc + 3) pos false (fL pc pos out :: fr) none hd := by
  obtain ⟨a1, a2, a3, a4, a5, a6, a7, a8, a9, a10, a11, a12, a13, a14, a15, a16, a17, a18⟩ := h
  obtain ⟨code', text', lim', start', lastStart', wholeText', mustAdvance', pc', pos', handed', outermost', marks', lastmark', lastindex', loops', inner', frames', weight', answer', seen', outcome'⟩ := m
  dsimp only at *
  subst a1 a2 a3 a4 a5 a6 a7 a8 a9 a10 a11 a12 a13 a14 a15 a16 a18
  have hl : ¬ (16777216 < frames'.length + 1) := by omega
  constructor <;> simp [-Array.getD_eq_getD_getElem?, M.step, M.exec, M.word, h1, ops, hz, h2, M.attempt, M.frame, M.keep, hl]

theorem st_success (h : Is code text lim s m pc pos out fr none hd) (hz : pc < code.size) (h1 : code.getD pc 0 = 1) :
    Is code text lim s m.step pc pos out fr (some true) pos := by
  obtain ⟨a1, a2, a3, a4, a5, a6, a7, a8, a9, a10, a11, a12, a13, a14, a15, a16, a17, a18⟩ := h
  obtain ⟨code', text', lim', start', lastStart', wholeText', mustAdvance', pc', pos', handed', outermost', marks', lastmark', lastindex', loops', inner', frames', weight', answer', seen', outcome'⟩ := m
  dsimp only at *
  subst a1 a2 a3 a4 a5 a6 a7 a8 a9 a10 a11 a12 a13 a14 a15 a16 a18
  constructor <;> simp [-Array.getD_eq_getD_getElem?, M.step, M.exec, M.word, h1, ops, hz, M.say]

theorem st_at_ok (h : Is code text lim s m pc pos out fr none hd) (hz : pc < code.size) (h1 : code.getD pc 0 = 6) (h2 : code.getD (pc + 1) 0 = 1) (h3 : pos = 0 ∨ text.getD (pos - 1) 0 = 10) :
    Is code text lim s m.step (pc + 2) pos out fr none hd := by
  obtain ⟨a1, a2, a3, a4, a5, a6, a7, a8, a9, a10, a11, a12, a13, a14, a15, a16, a17, a18⟩ := h
  obtain ⟨code', text', lim', start', lastStart', wholeText', mustAdvance', pc', pos', handed', outermost', marks', lastmark', lastindex', loops', inner', frames', weight', answer', seen', outcome'⟩ := m
  dsimp only at *
  subst a1 a2 a3 a4 a5 a6 a7 a8 a9 a10 a11 a12 a13 a14 a15 a16 a18
  have h4 : (pos' == 0 || text'.getD (pos' - 1) 0 == 10) = true := by simpa [-Array.getD_eq_getD_getElem?] using h3
  constructor <;> simp [-Array.getD_eq_getD_getElem?, M.step, M.exec, M.word, h1, ops, hz, h2, M.isAt, h4]

theorem st_at_no (h : Is code text lim s m pc pos out fr none hd) (hz : pc < code.size) (h1 : code.getD pc 0 = 6) (h2 : code.getD (pc + 1) 0 = 1) (h3 : ¬ (pos = 0 ∨ text.getD (pos - 1) 0 = 10)) :
    Is code text lim s m.step pc pos out fr (some false) hd := by
  obtain ⟨a1, a2, a3, a4, a5, a6, a7, a8, a9, a10, a11, a12, a13, a14, a15, a16, a17, a18⟩ := h
  obtain ⟨code', text', lim', start', lastStart', wholeText', mustAdvance', pc', pos', handed', outermost', marks', lastmark', lastindex', loops', inner', frames', weight', answer', seen', outcome'⟩ := m
  dsimp only at *
  subst a1 a2 a3 a4 a5 a6 a7 a8 a9 a10 a11 a12 a13 a14 a15 a16 a18
  have h4 : (pos' == 0 || text'.getD (pos' - 1) 0 == 10) = false := by simpa [-Array.getD_eq_getD_getElem?] using h3
  constructor <;> simp [-Array.getD_eq_getD_getElem?, M.step, M.exec, M.word, h1, ops, hz, h2, M.isAt, h4, M.say]

variable {p0 s0 : Nat} {o0 : Bool}
theorem rs_branch_yes (h : Is code text lim s m pc pos out (fB p0 s0 o0 :: fr) (some true) hd) :
    Is code text lim s m.step p0 s0 o0 fr (some true) hd := by
  obtain ⟨a1, a2, a3, a4, a5, a6, a7, a8, a9, a10, a11, a12, a13, a14, a15, a16, a17, a18⟩ := h
  obtain ⟨code', text', lim', start', lastStart', wholeText', mustAdvance', pc', pos', handed', outermost', marks', lastmark', lastindex', loops', inner', frames', weight', answer', seen', outcome'⟩ := m
  dsimp only at *
  subst a1 a2 a3 a4 a5 a6 a7 a8 a9 a10 a11 a12 a13 a14 a15 a16 a18
  constructor <;> first | (simp [-Array.getD_eq_getD_getElem?, M.step, M.resume, M.say]; done) | (intro _; simpa [-Array.getD_eq_getD_getElem?, M.step, M.resume, M.say] using a17 rfl)
theorem rs_branch_next (h : Is code text lim s m pc pos out (fB p0 s0 o0 :: fr) (some false) hd) (h2 : code.getD (p0 + code.getD p0 0) 0 ≠ 0) (hf : fr.length < 100) :
    Is code text lim s m.step (p0 + code.getD p0 0 + 1) s0 o0 (fB (p0 + code.getD p0 0) s0 o0 :: fr) none hd := by
  obtain ⟨a1, a2, a3, a4, a5, a6, a7, a8, a9, a10, a11, a12, a13, a14, a15, a16, a17, a18⟩ := h
  obtain ⟨code', text', lim', start', lastStart', wholeText', mustAdvance', pc', pos', handed', outermost', marks', lastmark', lastindex', loops', inner', frames', weight', answer', seen', outcome'⟩ := m
  dsimp only at *
  subst a1 a2 a3 a4 a5 a6 a7 a8 a9 a10 a11 a12 a13 a14 a15 a16 a18
  have hl : ¬ (16777216 < fr.length + 1) := by omega
  constructor <;> simp [-Array.getD_eq_getD_getElem?, M.step, M.resume, M.alternative, h2, M.attempt, M.frame, M.putBack, hl]
theorem rs_branch_last (h : Is code text lim s m pc pos out (fB p0 s0 o0 :: fr) (some false) hd) (h2 : code.getD (p0 + code.getD p0 0) 0 = 0) :
    Is code text lim s m.step p0 s0 o0 fr (some false) hd := by
  obtain ⟨a1, a2, a3, a4, a5, a6, a7, a8, a9, a10, a11, a12, a13, a14, a15, a16, a17, a18⟩ := h
  obtain ⟨code', text', lim', start', lastStart', wholeText', mustAdvance', pc', pos', handed', outermost', marks', lastmark', lastindex', loops', inner', frames', weight', answer', seen', outcome'⟩ := m
  dsimp only at *
  subst a1 a2 a3 a4 a5 a6 a7 a8 a9 a10 a11 a12 a13 a14 a15 a16 a18
  constructor <;> simp [-Array.getD_eq_getD_getElem?, M.step, M.resume, M.alternative, h2, M.putBack, M.say]
theorem rs_look_yes (h : Is code text lim s m pc pos out (fL p0 s0 o0 :: fr) (some true) hd) :
    Is code text lim s m.step p0 s0 o0 fr (some false) hd := by
  obtain ⟨a1, a2, a3, a4, a5, a6, a7, a8, a9, a10, a11, a12, a13, a14, a15, a16, a17, a18⟩ := h
  obtain ⟨code', text', lim', start', lastStart', wholeText', mustAdvance', pc', pos', handed', outermost', marks', lastmark', lastindex', loops', inner', frames', weight', answer', seen', outcome'⟩ := m
  dsimp only at *
  subst a1 a2 a3 a4 a5 a6 a7 a8 a9 a10 a11 a12 a13 a14 a15 a16 a18
  constructor <;> simp [-Array.getD_eq_getD_getElem?, M.step, M.resume, M.say]
theorem rs_look_no (h : Is code text lim s m pc pos out (fL p0 s0 o0 :: fr) (some false) hd) :
    Is code text lim s m.step (p0 + 1 + code.getD (p0 + 1) 0) s0 o0 fr none hd := by
  obtain ⟨a1, a2, a3, a4, a5, a6, a7, a8, a9, a10, a11, a12, a13, a14, a15, a16, a17, a18⟩ := h
  obtain ⟨code', text', lim', start', lastStart', wholeText', mustAdvance', pc', pos', handed', outermost', marks', lastmark', lastindex', loops', inner', frames', weight', answer', seen', outcome'⟩ := m
  dsimp only at *
  subst a1 a2 a3 a4 a5 a6 a7 a8 a9 a10 a11 a12 a13 a14 a15 a16 a18
  constructor <;> simp [-Array.getD_eq_getD_getElem?, M.step, M.resume, M.putBack, M.word]
theorem rs_start_yes (h : Is code text lim s m pc pos out (fS p0 s0 o0 :: fr) (some true) hd) :
    Is code text lim s m.step p0 s0 o0 fr (some true) hd := by
  obtain ⟨a1, a2, a3, a4, a5, a6, a7, a8, a9, a10, a11, a12, a13, a14, a15, a16, a17, a18⟩ := h
  obtain ⟨code', text', lim', start', lastStart', wholeText', mustAdvance', pc', pos', handed', outermost', marks', lastmark', lastindex', loops', inner', frames', weight', answer', seen', outcome'⟩ := m
  dsimp only at *
  subst a1 a2 a3 a4 a5 a6 a7 a8 a9 a10 a11 a12 a13 a14 a15 a16 a18
  constructor <;> first | (simp [-Array.getD_eq_getD_getElem?, M.step, M.resume, M.say]; done) | (intro _; simpa [-Array.getD_eq_getD_getElem?, M.step, M.resume, M.say] using a17 rfl)
theorem rs_start_last (h : Is code text lim s m pc pos out (fS p0 s0 o0 :: fr) (some false) hd) (h2 : ¬ s0 < lim) :
    Is code text lim s m.step p0 s0 o0 fr (some false) hd := by
  obtain ⟨a1, a2, a3, a4, a5, a6, a7, a8, a9, a10, a11, a12, a13, a14, a15, a16, a17, a18⟩ := h
  obtain ⟨code', text', lim', start', lastStart', wholeText', mustAdvance', pc', pos', handed', outermost', marks', lastmark', lastindex', loops', inner', frames', weight', answer', seen', outcome'⟩ := m
  dsimp only at *
  subst a1 a2 a3 a4 a5 a6 a7 a8 a9 a10 a11 a12 a13 a14 a15 a16 a18
  constructor <;> simp [-Array.getD_eq_getD_getElem?, M.step, M.resume, M.say, h2]
theorem rs_start_next (h : Is code text lim s m pc pos out [fS p0 s0 o0] (some false) hd) (h2 : s0 < lim) (h3 : code.getD 2 0 ≠ 4) :
    Is code text lim (s0 + 1) m.step p0 (s0 + 1) false [fS p0 (s0 + 1) false] none hd := by
  obtain ⟨a1, a2, a3, a4, a5, a6, a7, a8, a9, a10, a11, a12, a13, a14, a15, a16, a17, a18⟩ := h
  obtain ⟨code', text', lim', start', lastStart', wholeText', mustAdvance', pc', pos', handed', outermost', marks', lastmark', lastindex', loops', inner', frames', weight', answer', seen', outcome'⟩ := m
  dsimp only at *
  subst a1 a2 a3 a4 a5 a6 a7 a8 a9 a10 a11 a12 a13 a14 a15 a16 a18
  constructor <;> simp [-Array.getD_eq_getD_getElem?, M.step, M.resume, M.say, h2, M.attemptFrom, M.hasFirstSet, h3, M.attemptAt, M.attempt]
theorem fin_yes (h : Is code text lim s m pc pos out [] (some true) hd) : m.step.outcome = some .matched ∧ m.step.start = s ∧ m.step.handed = hd := by
  obtain ⟨a1, a2, a3, a4, a5, a6, a7, a8, a9, a10, a11, a12, a13, a14, a15, a16, a17, a18⟩ := h
  obtain ⟨code', text', lim', start', lastStart', wholeText', mustAdvance', pc', pos', handed', outermost', marks', lastmark', lastindex', loops', inner', frames', weight', answer', seen', outcome'⟩ := m
  dsimp only at *
  subst a1 a2 a3 a4 a5 a6 a7 a8 a9 a10 a11 a12 a13 a14 a15 a16 a18
  simpa [-Array.getD_eq_getD_getElem?, M.step] using a17 rfl
theorem fin_no (h : Is code text lim s m pc pos out [] (some false) hd) : m.step.outcome = some .failed := by
  obtain ⟨a1, a2, a3, a4, a5, a6, a7, a8, a9, a10, a11, a12, a13, a14, a15, a16, a17, a18⟩ := h
  obtain ⟨code', text', lim', start', lastStart', wholeText', mustAdvance', pc', pos', handed', outermost', marks', lastmark', lastindex', loops', inner', frames', weight', answer', seen', outcome'⟩ := m
  dsimp only at *
  subst a1 a2 a3 a4 a5 a6 a7 a8 a9 a10 a11 a12 a13 a14 a15 a16 a18
  simp [-Array.getD_eq_getD_getElem?, M.step]
end
end Mine
end
section
open PySem PySem.Sre
set_option maxRecDepth 100000
namespace Mine

def Ends (m : M) (n : Nat) (r : Option (Nat × Nat)) : Prop :=
  match r with
  | some (s, e) => (m.runFor n).outcome = some .matched ∧ (m.runFor n).start = s ∧ (m.runFor n).handed = e
  | none => (m.runFor n).outcome = some .failed

theorem Ends.step {m : M} {n : Nat} {r : Option (Nat × Nat)} (ho : m.outcome = none) (h : Ends m.step n r) : Ends m (n + 1) r := by
  have e : m.runFor (n + 1) = m.step.runFor n := by simp [M.runFor, ho]
  unfold Ends at *
  rw [e]
  exact h

section
variable {code text : Array Nat} {lim s : Nat} {m : M} {pc pos hd : Nat} {out : Bool} {fr : List Sre.Frame}
theorem ends_yes (h : Is code text lim s m pc pos out [] (some true) hd) : Ends m 1 (some (s, hd)) := by
  have := fin_yes h
  simpa [Ends, M.runFor, h.ho] using this
theorem ends_no (h : Is code text lim s m pc pos out [] (some false) hd) : Ends m 1 none := by
  have := fin_no h
  simpa [Ends, M.runFor, h.ho] using this

theorem go2A (h : Is C2 text lim s m 10 s true [fS 10 s true] none hd) (hl : s < lim) (hc : text.getD s 0 = 10) : Ends m 9 (some (s, s + 1)) := by
  have h1 := st_branch h (by first | decide | simp) (by first | decide | simp) (by first | decide | simp) (by first | decide | simp)
  have h2 := st_lit_no h1 (by first | decide | simp) (by first | decide | simp) (by intro _; rw [hc]; decide)
  have h3 := rs_branch_next h2 (by first | decide | simp) (by first | decide | simp)
  have h4 := st_lit_ok h3 (by first | decide | simp) (by first | decide | simp) (by rw [hc]; decide) hl
  have h5 := st_jump h4 (by first | decide | simp) (by first | decide | simp)
  have h6 := st_success h5 (by first | decide | simp) (by first | decide | simp)
  have h7 := rs_branch_yes h6
  have h8 := rs_start_yes h7
  exact .step h.ho (.step h1.ho (.step h2.ho (.step h3.ho (.step h4.ho (.step h5.ho (.step h6.ho (.step h7.ho (ends_yes h8))))))))

theorem go2B (h : Is C2 text lim s m 10 s true [fS 10 s true] none hd) (hl : s + 1 < lim) (hc : text.getD s 0 = 13) (hc' : text.getD (s + 1) 0 = 10) : Ends m 8 (some (s, s + 2)) := by
  have h1 := st_branch h (by first | decide | simp) (by first | decide | simp) (by first | decide | simp) (by first | decide | simp)
  have h3 := st_lit_ok h1 (by first | decide | simp) (by first | decide | simp) (by rw [hc]; decide) (by omega)
  have h4 := st_lit_ok h3 (by first | decide | simp) (by first | decide | simp) (by rw [hc']; decide) hl
  have h5 := st_jump h4 (by first | decide | simp) (by first | decide | simp)
  have h6 := st_success h5 (by first | decide | simp) (by first | decide | simp)
  have h7 := rs_branch_yes h6
  have h8 := rs_start_yes h7
  exact .step h.ho (.step h1.ho (.step h3.ho (.step h4.ho (.step h5.ho (.step h6.ho (.step h7.ho (ends_yes h8)))))))

theorem go2C (h : Is C2 text lim s m 10 s true [fS 10 s true] none hd) (hl : s < lim) (hc : text.getD s 0 = 13) (hc' : s + 1 < lim → text.getD (s + 1) 0 ≠ 10) : Ends m 15 (some (s, s + 1)) := by
  have h1 := st_branch h (by first | decide | simp) (by first | decide | simp) (by first | decide | simp) (by first | decide | simp)
  have h2 := st_lit_ok h1 (by first | decide | simp) (by first | decide | simp) (by rw [hc]; decide) hl
  have h3 := st_lit_no h2 (by first | decide | simp) (by first | decide | simp) (fun q e => hc' q e.symm)
  have h4 := rs_branch_next h3 (by first | decide | simp) (by first | decide | simp)
  have h5 := st_lit_no h4 (by first | decide | simp) (by first | decide | simp) (by intro _; rw [hc]; decide)
  have h6 := rs_branch_next h5 (by first | decide | simp) (by first | decide | simp)
  have h7 := st_lit_ok h6 (by first | decide | simp) (by first | decide | simp) (by rw [hc]; decide) hl
  have h8 := st_assert_not h7 (by first | decide | simp) (by first | decide | simp) (by first | decide | simp) (by first | decide | simp)
  have h9 := st_lit_no h8 (by first | decide | simp) (by first | decide | simp) (fun q e => hc' q e.symm)
  have h10 := rs_look_no h9
  have h11 := st_jump h10 (by first | decide | simp) (by first | decide | simp)
  have h12 := st_success h11 (by first | decide | simp) (by first | decide | simp)
  have h13 := rs_branch_yes h12
  have h14 := rs_start_yes h13
  exact .step h.ho (.step h1.ho (.step h2.ho (.step h3.ho (.step h4.ho (.step h5.ho (.step h6.ho (.step h7.ho (.step h8.ho (.step h9.ho (.step h10.ho (.step h11.ho (.step h12.ho (.step h13.ho (ends_yes h14))))))))))))))
end

/-- the search of pattern 2 -/
def IsNL (c : Nat) : Prop := c = 10 ∨ c = 13
theorem inSet_lit {code : Array Nat} {c f i : Nat} {yes : Bool} {seen : Seen} (h : code.getD i 0 = 16) :
    inSet code c (f + 1) i yes seen = if (c == code.getD (i + 1) 0) = true then .ok (yes, seen.add 16) else inSet code c f (i + 2) yes (seen.add 16) := by
  simp [-Array.getD_eq_getD_getElem?, inSet, h, ops]
theorem inSet_fail {code : Array Nat} {c f i : Nat} {yes : Bool} {seen : Seen} (h : code.getD i 0 = 0) :
    inSet code c (f + 1) i yes seen = .ok (!yes, seen.add 0) := by
  simp [-Array.getD_eq_getD_getElem?, inSet, h, ops]
theorem inSet2 (c : Nat) (seen : Seen) : ∃ seen', inSet C2 c C2.size 5 true seen = .ok (c == 10 || c == 13, seen') := by
  show ∃ seen', inSet C2 c (33 + 1 + 1 + 1) 5 true seen = _
  rw [inSet_lit (by decide), inSet_lit (by decide), inSet_fail (by decide)]
  show ∃ seen', (if (c == 10) = true then _ else if (c == 13) = true then _ else _) = _
  cases h1 : c == 10
  · cases h2 : c == 13
    · exact ⟨_, rfl⟩
    · exact ⟨_, rfl⟩
  · exact ⟨_, rfl⟩

theorem admitted2_some (m : M) (hc : m.code = C2) {s : Nat} (hs : s < m.lim) (hn : IsNL (m.text.getD s 0)) : ∀ (fuel a : Nat) (seen : Seen), a ≤ s → s < a + fuel → (∀ k, a ≤ k → k < s → ¬ IsNL (m.text.getD k 0)) →
    ∃ seen', M.admitted m fuel a seen = .ok (some s, seen')
  | 0, a, seen, h1, h2, _ => by omega
  | fuel + 1, a, seen, h1, h2, h3 => by
    obtain ⟨seen', e⟩ := inSet2 (m.text.getD a 0) seen
    unfold M.admitted
    rw [if_neg (by omega), hc, e]
    by_cases h : a = s
    · subst h
      have : (m.text.getD a 0 == 10 || m.text.getD a 0 == 13) = true := by simpa [IsNL] using hn
      rw [this]
      exact ⟨_, rfl⟩
    · have h4 := h3 a (Nat.le_refl _) (by omega)
      have : (m.text.getD a 0 == 10 || m.text.getD a 0 == 13) = false := by simpa [IsNL, not_or] using h4
      rw [this]
      exact admitted2_some m hc hs hn fuel (a + 1) seen' (by omega) (by omega) fun k hk1 hk2 => h3 k (by omega) hk2
theorem admitted2_none (m : M) (hc : m.code = C2) : ∀ (fuel a : Nat) (seen : Seen), (∀ k, a ≤ k → k < m.lim → ¬ IsNL (m.text.getD k 0)) →
    ∃ seen', M.admitted m fuel a seen = .ok (none, seen')
  | 0, a, seen, h3 => ⟨_, rfl⟩
  | fuel + 1, a, seen, h3 => by
    obtain ⟨seen', e⟩ := inSet2 (m.text.getD a 0) seen
    unfold M.admitted
    by_cases h : a ≥ m.lim
    · rw [if_pos h]; exact ⟨_, rfl⟩
    · rw [if_neg h, hc, e]
      have h4 := h3 a (Nat.le_refl _) (by omega)
      have : (m.text.getD a 0 == 10 || m.text.getD a 0 == 13) = false := by simpa [IsNL, not_or] using h4
      rw [this]
      exact admitted2_none m hc fuel (a + 1) seen' fun k hk1 hk2 => h3 k (by omega) hk2

theorem attemptFrom_some {m : M} {s s' : Nat} {first : Bool} {seen' : Seen} (hh : m.hasFirstSet = true) (e : M.admitted m (m.lim + 1 - s) s m.seen = .ok (some s', seen')) :
    m.attemptFrom s first = M.attemptAt { m with mustAdvance := false, seen := seen' } s' first := by
  unfold M.attemptFrom
  rw [hh, e]
  rfl
theorem attemptFrom_none {m : M} {s : Nat} {first : Bool} {seen' : Seen} (hh : m.hasFirstSet = true) (e : M.admitted m (m.lim + 1 - s) s m.seen = .ok (none, seen')) :
    m.attemptFrom s first = M.say { m with seen := seen' } false := by
  unfold M.attemptFrom
  rw [hh, e]
  rfl
abbrev start2 (text : Array Nat) (start ls : Nat) : M :=
  { code := C2, text, lim := text.size, start := start, lastStart := ls, pc := 10, pos := start, handed := start, marks := Array.replicate 0 none, mustAdvance := false, seen := ({} : Seen).add 14 }
theorem search2_eq (text : Array Nat) (start : Nat) : forSearch C2 text 0 start text.size false =
    if (decide (start > text.size) || decide (text.size - start < 1)) = true then (start2 text start 0).say false else (start2 text start text.size).attemptFrom start true := by
  rfl

theorem search2_none (text : Array Nat) (start : Nat) (h : ∀ k, start ≤ k → k < text.size → ¬ IsNL (text.getD k 0)) : Ends (forSearch C2 text 0 start text.size false) 1 none := by
  rw [search2_eq]
  split
  · simp [Ends, M.runFor, M.step, M.say]
  · obtain ⟨seen', e⟩ := admitted2_none (start2 text start text.size) rfl (text.size + 1 - start) start (({} : Seen).add 14) h
    rw [attemptFrom_none rfl e]
    simp [Ends, M.runFor, M.step, M.say]

theorem search2_some (text : Array Nat) (start s : Nat) (h1 : start ≤ s) (h2 : s < text.size) (hn : IsNL (text.getD s 0)) (h : ∀ k, start ≤ k → k < s → ¬ IsNL (text.getD k 0)) :
    ∃ n, n ≤ 20 ∧ Ends (forSearch C2 text 0 start text.size false) n (some (s, if text.getD s 0 = 13 ∧ s + 1 < text.size ∧ text.getD (s + 1) 0 = 10 then s + 2 else s + 1)) := by
  rw [search2_eq, if_neg (by simp; omega)]
  obtain ⟨seen', e⟩ := admitted2_some (start2 text start text.size) rfl h2 hn (text.size + 1 - start) start (({} : Seen).add 14) h1 (by omega) h
  have I : Is C2 text text.size s ((start2 text start text.size).attemptFrom start true) 10 s true [fS 10 s true] none 0 := by
    rw [attemptFrom_some rfl e]
    constructor <;> simp [M.attemptAt, M.attempt]
  rcases hn with hn | hn
  · rw [if_neg (by omega)]
    exact ⟨9, by omega, go2A I h2 hn⟩
  · by_cases h3 : s + 1 < text.size ∧ text.getD (s + 1) 0 = 10
    · rw [if_pos ⟨hn, h3⟩]
      exact ⟨8, by omega, go2B I h3.1 hn h3.2⟩
    · rw [if_neg (fun q => h3 q.2)]
      exact ⟨15, by omega, go2C I h2 hn fun q1 q2 => h3 ⟨q1, q2⟩⟩

/-- pattern 1: a dot at the head of a line -/
def AtDot (text : Array Nat) (k : Nat) : Prop := (k = 0 ∨ text.getD (k - 1) 0 = 10) ∧ k < text.size ∧ text.getD k 0 = 46
section
variable {text : Array Nat} {s : Nat} {m : M} {hd : Nat} {out : Bool}
theorem go1_yes (h : Is C1 text text.size s m 5 s out [fS 5 s out] none hd) (hd' : AtDot text s) : Ends m 5 (some (s, s + 1)) := by
  obtain ⟨a, b, c⟩ := hd'
  have h1 := st_at_ok h (by first | decide | simp) (by first | decide | simp) (by first | decide | simp) a
  have h2 := st_lit_ok h1 (by first | decide | simp) (by first | decide | simp) (by rw [c]; decide) b
  have h3 := st_success h2 (by first | decide | simp) (by first | decide | simp)
  have h4 := rs_start_yes h3
  exact .step h.ho (.step h1.ho (.step h2.ho (.step h3.ho (ends_yes h4))))
theorem go1_no (h : Is C1 text text.size s m 5 s out [fS 5 s out] none hd) (hd' : ¬ AtDot text s) :
    (∃ pc pos m', (m' = m.step ∨ (m' = m.step.step ∧ m.step.outcome = none)) ∧ Is C1 text text.size s m' pc pos out [fS 5 s out] (some false) hd) := by
  by_cases a : s = 0 ∨ text.getD (s - 1) 0 = 10
  · have h1 := st_at_ok h (by first | decide | simp) (by first | decide | simp) (by first | decide | simp) a
    have h2 := st_lit_no h1 (by first | decide | simp) (by first | decide | simp) (fun q e => hd' ⟨a, q, by rw [← e]; decide⟩)
    exact ⟨_, _, _, .inr ⟨rfl, h1.ho⟩, h2⟩
  · have h1 := st_at_no h (by first | decide | simp) (by first | decide | simp) (by first | decide | simp) a
    exact ⟨_, _, _, .inl rfl, h1⟩

theorem go1_next {r : Option (Nat × Nat)} {n : Nat} (h : Is C1 text text.size s m 5 s out [fS 5 s out] none hd) (hd' : ¬ AtDot text s) (hs : s < text.size)
    (k : ∀ m', Is C1 text text.size (s + 1) m' 5 (s + 1) false [fS 5 (s + 1) false] none hd → ∃ n', n' ≤ n ∧ Ends m' n' r) : ∃ n', n' ≤ n + 3 ∧ Ends m n' r := by
  obtain ⟨pc, pos, m', hm, I⟩ := go1_no h hd'
  have h3 := rs_start_next I hs (by decide)
  obtain ⟨n', hn', he⟩ := k _ h3
  rcases hm with rfl | ⟨rfl, ho⟩
  · exact ⟨n' + 1 + 1, by omega, .step h.ho (.step I.ho he)⟩
  · exact ⟨n' + 1 + 1 + 1, by omega, .step h.ho (.step ho (.step I.ho he))⟩

theorem go1_end (h : Is C1 text text.size s m 5 s out [fS 5 s out] none hd) (hd' : ¬ AtDot text s) (hs : ¬ s < text.size) : ∃ n', n' ≤ 4 ∧ Ends m n' none := by
  obtain ⟨pc, pos, m', hm, I⟩ := go1_no h hd'
  have h3 := rs_start_last I hs
  rcases hm with rfl | ⟨rfl, ho⟩
  · exact ⟨3, by omega, .step h.ho (.step I.ho (ends_no h3))⟩
  · exact ⟨4, by omega, .step h.ho (.step ho (.step I.ho (ends_no h3)))⟩

theorem go1_some {t : Nat} (ht : AtDot text t) : ∀ (j s : Nat) (m : M) (out : Bool), t = s + j → (∀ k, s ≤ k → k < t → ¬ AtDot text k) → Is C1 text text.size s m 5 s out [fS 5 s out] none hd →
    ∃ n, n ≤ 3 * j + 5 ∧ Ends m n (some (t, t + 1))
  | 0, s, m, out, e, _, h => by
    obtain rfl : t = s := e
    exact ⟨5, by omega, go1_yes h ht⟩
  | j + 1, s, m, out, e, hn, h => by
    have := ht.2.1
    obtain ⟨n, h1, h2⟩ := go1_next (n := 3 * j + 5) h (hn s (Nat.le_refl _) (by omega)) (by omega) fun m' I => go1_some ht j (s + 1) m' false (by omega) (fun k q1 q2 => hn k (by omega) q2) I
    exact ⟨n, by omega, h2⟩
theorem go1_none : ∀ (j s : Nat) (m : M) (out : Bool), text.size = s + j → (∀ k, s ≤ k → ¬ AtDot text k) → Is C1 text text.size s m 5 s out [fS 5 s out] none hd →
    ∃ n, n ≤ 3 * j + 4 ∧ Ends m n none
  | 0, s, m, out, e, hn, h => by
    obtain ⟨n, h1, h2⟩ := go1_end h (hn s (Nat.le_refl _)) (by omega)
    exact ⟨n, by omega, h2⟩
  | j + 1, s, m, out, e, hn, h => by
    obtain ⟨n, h1, h2⟩ := go1_next (n := 3 * j + 4) h (hn s (Nat.le_refl _)) (by omega) fun m' I => go1_none j (s + 1) m' false (by omega) (fun k q1 => hn k (by omega)) I
    exact ⟨n, by omega, h2⟩
end

abbrev start1 (text : Array Nat) (start ls : Nat) : M :=
  { code := C1, text, lim := text.size, start := start, lastStart := ls, pc := 5, pos := start, handed := start, marks := Array.replicate 0 none, mustAdvance := false, seen := ({} : Seen).add 14 }
theorem search1_eq (text : Array Nat) (start : Nat) : forSearch C1 text 0 start text.size false =
    if (decide (start > text.size) || decide (text.size - start < 1)) = true then (start1 text start 0).say false else (start1 text start text.size).attemptFrom start true := by
  rfl
theorem search1_is (text : Array Nat) (start : Nat) : Is C1 text text.size start ((start1 text start text.size).attemptFrom start true) 5 start true [fS 5 start true] none 0 := by
  have e : (start1 text start text.size).attemptFrom start true = (start1 text start text.size).attemptAt start true := by
    unfold M.attemptFrom
    rw [show (start1 text start text.size).hasFirstSet = false from rfl]
    rfl
  rw [e]
  constructor <;> simp [M.attemptAt, M.attempt]
theorem search1_some (text : Array Nat) (start s : Nat) (h1 : start ≤ s) (h2 : AtDot text s) (h : ∀ k, start ≤ k → k < s → ¬ AtDot text k) :
    ∃ n, n ≤ 3 * text.size + 5 ∧ Ends (forSearch C1 text 0 start text.size false) n (some (s, s + 1)) := by
  have := h2.2.1
  rw [search1_eq, if_neg (by simp; omega)]
  obtain ⟨n, q1, q2⟩ := go1_some h2 (s - start) start _ true (by omega) h (search1_is text start)
  exact ⟨n, by omega, q2⟩
theorem search1_none (text : Array Nat) (start : Nat) (hs : start ≤ text.size) (h : ∀ k, start ≤ k → ¬ AtDot text k) :
    ∃ n, n ≤ 3 * text.size + 5 ∧ Ends (forSearch C1 text 0 start text.size false) n none := by
  rw [search1_eq]
  split
  · exact ⟨1, by omega, by simp [Ends, M.runFor, M.step, M.say]⟩
  · obtain ⟨n, q1, q2⟩ := go1_none (text.size - start) start _ true (by omega) h (search1_is text start)
    exact ⟨n, by omega, q2⟩
end Mine
end
section
open PySem PySem.W PySem.Calls PyProof.Rows PySem.Spec
set_option maxRecDepth 100000
namespace Mine
open PySem.Builtin.Re

section
variable {M : Model} {A : Around} {E : Value → Shared → Prop} {s : Shared}

theorem runFor_done {m : Sre.M} (h : m.outcome.isSome = true) : ∀ n, m.runFor n = m
  | 0 => rfl
  | n + 1 => by unfold Sre.M.runFor; rw [if_pos h]
theorem runFor_add (a b : Nat) : ∀ m : Sre.M, m.runFor (a + b) = (m.runFor a).runFor b := by
  induction a with
  | zero => intro m; simp [Sre.M.runFor]
  | succ a ih =>
    intro m
    rw [Nat.succ_add]
    by_cases h : m.outcome.isSome = true
    · rw [runFor_done h, runFor_done h, runFor_done h]
    · conv => lhs; unfold Sre.M.runFor
      conv => rhs; arg 2; unfold Sre.M.runFor
      rw [if_neg h, if_neg h]
      exact ih _
theorem runFor_far {m : Sre.M} {n k : Nat} (h : (m.runFor n).outcome.isSome = true) (hk : n ≤ k) : m.runFor k = m.runFor n := by
  obtain ⟨j, rfl⟩ := Nat.exists_eq_add_of_le hk
  rw [runFor_add, runFor_done h]

theorem reDrive_wp {Q : Sre.M → Shared → Prop} : ∀ (t n : Nat) (m : Sre.M), (m.runFor n).outcome.isSome = true → n ≤ 4 * t → Q (m.runFor n) s → wpAny M A (reDrive (t + 1) m) Q E s
  | t, n, m, h, hn, hq => by
    unfold reDrive
    show wpAny M A (if (m.runFor 4).outcome.isSome = true then pure (m.runFor 4) else (do rule "sre.turn"; reDrive t (m.runFor 4))) Q E s
    by_cases h4 : (m.runFor 4).outcome.isSome = true
    · rw [if_pos h4]
      have : m.runFor 4 = m.runFor n := by
        rcases Nat.le_total n 4 with q | q
        · exact runFor_far h q
        · exact (runFor_far h4 q).symm
      rw [this]
      exact wpAny_pure hq
    · rw [if_neg h4]
      have h5 : 4 < n := by
        rcases Nat.lt_or_ge 4 n with q | q
        · exact q
        · exact absurd (by rw [runFor_far h q]; exact h) h4
      obtain ⟨j, rfl⟩ := Nat.exists_eq_add_of_le (Nat.le_of_lt h5)
      rw [runFor_add] at h hq
      match t, hn with
      | 0, hn => omega
      | t + 1, hn => exact wpAny_bind (wpAny_rule (reDrive_wp t j _ h (by omega) hq))

theorem runToEnd_wp {m : Sre.M} {n : Nat} {r : Option (Nat × Nat)} {Q : Option Sre.M → Shared → Prop} (h : Ends m n r) (hn : n ≤ 10000000)
    (hq : match r with | some (a, b) => ∀ m' : Sre.M, m'.start = a → m'.handed = b → Q (some m') s | none => Q none s) : wpAny M A (reRunToEnd m) Q E s := by
  unfold reRunToEnd
  have h1 : (m.runFor n).outcome.isSome = true := by
    unfold Ends at h
    split at h
    · rw [h.1]; rfl
    · rw [h]; rfl
  refine wpAny_bind ?_
  show wpAny M A (reDrive (18446744073709551615 + 1) m) _ E s
  refine reDrive_wp 18446744073709551615 n m h1 (by omega) ?_
  generalize hm : m.runFor n = m' at *
  refine wpAny_bind (wpAny_forIn_list _ (fun _ _ s' => s' = s) _ ?_ ?_ _ _ rfl)
  · rintro x rest b s' rfl
    split
    · exact wpAny_bind (wpAny_rule (wpAny_pure rfl))
    · exact wpAny_pure rfl
  · rintro b s' rfl
    unfold Ends at h
    split at h
    · obtain ⟨e1, e2, e3⟩ := h
      rw [hm] at e1 e2 e3
      rw [e1]
      exact wpAny_pure (hq m' e2 e3)
    · rw [hm] at h
      rw [h]
      exact wpAny_pure hq
end

/-- the pattern's object, and its code's -/
structure IsPat (h : Heap) (P : Addr) (code : Array Nat) : Prop where
  mk :: (at_ : ∃ o vs T oT items n, h.get? P = some o ∧ o.cls = .type "re.Pattern" ∧ o.dict = none ∧ o.data = .fields vs ∧ vs.getD 2 .none = .int 0 0 ∧ vs.getD 5 .none = .ref T ∧ vs.getD 6 .none = .int 0 0 ∧ h.get? T = some oT ∧ oT.data = .seq items n ∧
    (items.map reRawOf).map (·.toNat) = code)
theorem IsPat.keeps {h h' : Heap} {P : Addr} {code : Array Nat} (x : IsPat h P code) (k : ∀ b o, h.get? b = some o → h'.get? b = some o) : IsPat h' P code := by
  obtain ⟨o, vs, T, oT, items, n, a, b, c, d, e, f, g, i, j, l⟩ := x
  exact ⟨o, vs, T, oT, items, n, k _ _ a, b, c, d, e, f, g, k _ _ i, j, l⟩

section
variable {prog : Program} {w : World} {A : Around} {E : Value → Shared → Prop} {s : Shared} {P : Addr} {code : Array Nat} {x : Str} {t : Tok}
theorem wholeTarget_wp {Q : ReTarget → Shared → Prop} (hp : IsPat s.heap P code)
    (hq : Q { pattern := .ref P, string := .str x t, code, text := x.cps, kind := 0, groups := 0, pos := 0, lim := x.cps.size } s) : wpAny (model prog w) A (reWholeTarget (.ref P) (.str x t)) Q E s := by
  obtain ⟨o, vs, T, oT, items, n, a, b, c, d, e, f, g, i, j, l⟩ := hp
  unfold reWholeTarget
  refine wpAny_bind (wpAny_fieldsOf a d ?_)
  refine wpAny_bind (m := reTextOf (.str x t)) (Q := _) ?_
  refine wpAny_of_eq (a := (x.cps, 0)) (by rfl) ?_
  dsimp only
  rw [e, f, g]
  rw [if_neg (by decide), if_neg (by decide)]
  refine wpAny_bind (wpAny_of_eq (a := ()) (by rfl) ?_)
  refine wpAny_bind ?_
  unfold reRawItems
  refine wpAny_bind (wpAny_seqItems i j (wpAny_pure (wpAny_pure ?_)))
  show Q { pattern := .ref P, string := .str x t, code := (items.map reRawOf).map (·.toNat), text := x.cps, kind := 0, groups := 0, pos := 0, lim := x.cps.size } s
  rw [l]
  exact hq

theorem slice_wp {a : Array Nat} {i j : Nat} {Q : Value → Shared → Prop} (hz : a.size ≤ 100000) (hq : ∀ t k, Q (.str ⟨a.extract i j⟩ t) { s with toks := k }) : wpAny (model prog w) A (reSlice a 0 i j) Q E s := by
  have hsz := sizeLine_eq
  have h1 : (a.extract i j).size ≤ a.size := by rw [Array.size_extract]; omega
  show wpAny _ _ (mkStr ⟨a.extract i j⟩) _ _ _
  exact wpAny_mkStr (hq _ _) (by show (a.extract i j).size ≤ sizeLine; omega)

/-- the list of the pieces -/
def PL (h : Heap) (D : Addr) (l : List (Str × Tok)) : Prop := ∃ n, h.get? D = some (listOf (strValues l).toArray n)
theorem push_wp {D : Addr} {l : List (Str × Tok)} {y : Str} {u : Tok} {Q : Unit → Shared → Prop} (hl : PL s.heap D l) (hz : l.length ≤ 100000)
    (hq : ∀ h', PL h' D (l ++ [(y, u)]) → Heap.SameBut D s.heap h' → Q () { s with heap := h' }) : wpAny (model prog w) A (updateSeq D (·.push (.str y u))) Q E s := by
  have hsz := sizeLine_eq
  obtain ⟨n, ho⟩ := hl
  have h1 : (strValues l).toArray.size = l.length := by simp [strValues]
  refine wpAny_updateSeq ho rfl (hq _ ?_ (Heap.SameBut.update ..)) (by omega) (by simp only [Array.size_push]; omega)
  refine ⟨n + 1, ?_⟩
  rw [Heap.get?_update_self _ ho rfl]
  simp [Obj.mapSeq, strValues, List.push_toArray]
end
end Mine
end
section
open PySem PySem.W PySem.Calls PyProof.Rows PySem.Spec
set_option maxRecDepth 100000
namespace Mine
open PySem.Builtin.Re

inductive SubOut (code x : Array Nat) (repl : List Nat) : Nat → List Nat → Prop
  | stop {start : Nat} : start ≤ x.size → (∃ n, n ≤ 10000000 ∧ Ends (Sre.forSearch code x 0 start x.size false) n none) → SubOut code x repl start (x.toList.drop start)
  | hit {start a b : Nat} {out : List Nat} : start ≤ a → a < b → b ≤ x.size → (∃ n, n ≤ 10000000 ∧ Ends (Sre.forSearch code x 0 start x.size false) n (some (a, b))) → SubOut code x repl b out →
      SubOut code x repl start ((x.toList.drop start).take (a - start) ++ repl ++ out)

namespace RX
theorem entry_loop : entryFor table "re.Pattern.sub.loop" = some Builtin.«re.Pattern.sub.loop» := entryFor_of_tree (by kernel_rfl)
theorem plain_loop : plainId "re.Pattern.sub.loop" = true := by decide +kernel
theorem entry_sub : entryFor table "re.Pattern.sub" = some Builtin.«re.Pattern.sub» := entryFor_of_tree (by kernel_rfl)
theorem args_sub (a b c : Value) : argsOk "re.Pattern.sub" ⟨[a, b, c], []⟩ := by unfold argsOk; kernel_rfl
theorem plainAttrs : PlainAttrs "re.Pattern" :=
  ⟨⟨"object.__getattribute__", by rw [typeLookup_type, builtinLookup_eq_fast]; kernel_rfl, by decide +kernel⟩, by rw [typeLookup_type, builtinLookup_eq_fast]; kernel_rfl⟩
theorem slot_sub : Slot "re.Pattern" "sub" "re.Pattern.sub" :=
  .of (owner := "re.Pattern") (n := "sub") (by rw [typeLookup_type, builtinLookup_eq_fast]; kernel_rfl) (by decide +kernel) (by decide +kernel) (by decide +kernel)
    (by first | exact .inl (by decide +kernel) | exact .inr (by decide +kernel)) (by rw [isSubtype_type]; kernel_rfl)
theorem type_sub : typeOf (.builtin "re.Pattern.sub") = pure (.type "method_descriptor") := by show builtinType _ = _; rw [builtinType_eq_fast]; kernel_rfl
end RX

theorem ext_toList (a : Array Nat) (i j : Nat) : (a.extract i j).toList = (a.toList.drop i).take (j - i) := by
  rw [Array.toList_extract, List.extract_eq_take_drop]
theorem join_empty (sep : Str) (hs : sep.cps = #[]) : ∀ ys : List Str, Txt.join sep ys = ⟨(ys.flatMap (·.cps.toList)).toArray⟩ := by
  intro ys
  show Builtin.Str.glued sep ys = _
  rw [StrLaws.glued_eq_join]
  have : ∀ ys : List Str, (Str.join sep ys).cps.toList = ys.flatMap (·.cps.toList) := by
    intro ys
    induction ys with
    | nil => rfl
    | cons y r ih =>
      cases r with
      | nil => simp [Str.join]
      | cons z r =>
        show (y.cps ++ sep.cps ++ (Str.join sep (z :: r)).cps).toList = _
        rw [hs, Array.toList_append, ih]
        simp
  refine Str.ext' ?_
  rw [← this]

section
variable {prog : Program} {w : World} {A : Around} {P D : Addr} {code : Array Nat} {x repl : Str} {t u : Tok} {g : Heap}
theorem loop_wp {start : Nat} {out : List Nat} (H : SubOut code x.cps repl.cps.toList start out) (hp : IsPat g P code) (hD : g.get? D = none) (hx : x.cps.size ≤ 1000) :
    ∀ (s : Shared) (l : List (Str × Tok)) (n : Int) (R : Result → Shared → Prop), (∀ b o, g.get? b = some o → s.heap.get? b = some o) → PL s.heap D l →
      l.length + 2 * (x.cps.size - start) ≤ 10000 → (l.map (·.1.length)).sum + out.length ≤ 100000 →
      (∀ h' t' k', Heap.SameBut D s.heap h' → R (.ok (.ret (.str ⟨(l.flatMap (·.1.cps.toList) ++ out).toArray⟩ t'))) { s with heap := h', toks := k' }) →
      codeAny (model prog w) A (.builtin "re.Pattern.sub.loop" ⟨[.ref P, .str x t, .str repl u, rawInt 0, rawInt 0, rawInt n, rawInt start, rawInt start, .bool false, .ref D, .bool false], []⟩) R s := by
  induction H with
  | @stop start h1 h2 =>
    intro s l n R hk hl hz hw hq
    refine codeAny_builtin RX.entry_loop ?_
    rw [Around.under_plainId RX.plain_loop]
    refine wpAny_bind (wholeTarget_wp (hp.keeps hk) ?_)
    rw [if_pos (by decide)]
    refine wpAny_bind (wpAny_of_eq (a := ()) (by rfl) ?_)
    obtain ⟨k, hk1, hk2⟩ := h2
    refine wpAny_bind ?_
    rw [if_neg (by simp)]
    refine runToEnd_wp (m := Sre.forSearch code x.cps 0 start x.cps.size false) hk2 hk1 ?_
    dsimp only
    have fin : ∀ (s' : Shared) (l' : List (Str × Tok)), PL s'.heap D l' → l'.length ≤ 100000 → (l'.map (·.1.length)).sum ≤ 16777216 → (∀ t' k', R (.ok (.ret (.str ⟨(l'.flatMap (·.1.cps.toList)).toArray⟩ t'))) { s' with toks := k' }) →
        wpAny (model prog w) A.in1 (do
          let joiner ← reSlice x.cps 0 0 0
          let text ← if ((← seqItems? (.ref D)).getD #[]).isEmpty then pure joiner
            else call (.builtin (if 0 == 0 then "str.join" else "bytes.join")) [joiner, .ref D]
          if false then ret (← holding [text] do newTuple [text, ← mkInt n]) else ret text)
          (fun fin s' => match fin with | .done f => R (.ok f) s' | .again c' => c'.quiet = true ∧ codeAny (model prog w) A c' R s') (fun e s' => R (.error e) s') s' := by
      intro s' l' hl' hz' hw' hR
      obtain ⟨c, hc⟩ := hl'
      refine wpAny_bind (slice_wp (by omega) fun t' k' => ?_)
      refine wpAny_bind (wpAny_seqItems (s := { s' with toks := k' }) hc rfl ?_)
      have he : x.cps.extract 0 0 = #[] := by simp
      cases l' with
      | nil =>
        dsimp only
        rw [if_pos (show ((some (strValues []).toArray).getD #[]).isEmpty = true from rfl)]
        refine wpAny_bind (wpAny_pure ?_)
        rw [if_neg (by decide)]
        refine wpAny_pure ?_
        rw [he]
        exact hR _ _
      | cons p r =>
        rw [if_neg (by simp [strValues])]
        refine wpAny_bind ?_
        refine join_list (s := { s' with toks := k' }) (ys := (p :: r).map (·.1)) ⟨_, hc, rfl, c, rfl⟩ (by exact strsAre_of_values _) (by
          have : (⟨x.cps.extract 0 0⟩ : Str).length = 0 := by show (x.cps.extract 0 0).size = 0; rw [he]; rfl
          rw [this, List.map_map]; simpa [Function.comp_def] using hw') fun t'' k'' => ?_
        dsimp only
        rw [if_neg (by decide)]
        refine wpAny_pure ?_
        rw [join_empty ⟨x.cps.extract 0 0⟩ he, List.flatMap_map]
        exact hR _ _
    simp only [Int.toNat_natCast]
    by_cases hd : start < x.cps.size
    · rw [if_pos hd]
      refine wpAny_bind (slice_wp (by omega) fun t1 k1 => ?_)
      have h5 : ((x.cps.extract start x.cps.size).toList) = List.drop start x.cps.toList := by
        rw [ext_toList]; exact List.take_of_length_le (by simp)
      have h6 : (⟨x.cps.extract start x.cps.size⟩ : Str).length = (List.drop start x.cps.toList).length := by
        rw [← h5]; rfl
      refine wpAny_bind (push_wp (s := { s with toks := k1 }) hl (by omega) fun h' hl' hs' => ?_)
      refine fin _ (l ++ [(⟨x.cps.extract start x.cps.size⟩, t1)]) hl' (by simp; omega) (by simp only [List.map_append, List.sum_append, List.map_cons, List.map_nil, List.sum_cons, List.sum_nil, h6]; omega) fun t' k' => ?_
      have := hq h' t' k' hs'
      rw [List.flatMap_append, List.flatMap_cons, List.flatMap_nil, List.append_nil, h5]
      exact this
    · rw [if_neg hd]
      have h7 : List.drop start x.cps.toList = [] := List.drop_of_length_le (by simpa using Nat.le_of_not_lt hd)
      rw [h7] at hw hq
      refine fin s l hl (by omega) (by simp at hw; omega) fun t' k' => ?_
      have := hq s.heap t' k' (.refl _ _)
      rwa [List.append_nil] at this
  | @hit start a b out h1 h2 h3 h4 _ ih =>
    intro s l n R hk hl hz hw hq
    refine codeAny_builtin RX.entry_loop ?_
    rw [Around.under_plainId RX.plain_loop]
    refine wpAny_bind (wholeTarget_wp (hp.keeps hk) ?_)
    rw [if_pos (by decide)]
    refine wpAny_bind (wpAny_of_eq (a := ()) (by rfl) ?_)
    obtain ⟨k, hk1, hk2⟩ := h4
    refine wpAny_bind ?_
    rw [if_neg (by simp)]
    refine runToEnd_wp (m := Sre.forSearch code x.cps 0 start x.cps.size false) hk2 hk1 ?_
    intro m' e1 e2
    dsimp only
    rw [e1, e2]
    simp only [Int.toNat_natCast]
    have hba : (b == a) = false := by rw [beq_eq_false_iff_ne]; omega
    have hl1 : repl.length = repl.cps.toList.length := rfl
    have tail : ∀ (s' : Shared) (l' : List (Str × Tok)) , (∀ b o, g.get? b = some o → s'.heap.get? b = some o) → PL s'.heap D l' → l'.length ≤ l.length + 1 → (l'.map (·.1.length)).sum + repl.cps.toList.length + out.length ≤ 100000 →
        (∀ h' t' k', Heap.SameBut D s'.heap h' → R (.ok (.ret (.str ⟨(l'.flatMap (·.1.cps.toList) ++ repl.cps.toList ++ out).toArray⟩ t'))) { s' with heap := h', toks := k' }) →
        wpAny (model prog w) A.in1 (do
          updateSeq D fun x => x.push (Value.str repl u)
          again (Code.builtin "re.Pattern.sub.loop" { pos := [Value.ref P, Value.str x t, Value.str repl u, rawInt 0, rawInt 0, rawInt (n + 1), rawInt b, rawInt b, Value.bool (b == a), Value.ref D, Value.bool false] }))
          (fun fin s' => match fin with | .done f => R (.ok f) s' | .again c' => c'.quiet = true ∧ codeAny (model prog w) A c' R s') (fun e s' => R (.error e) s') s' := by
      intro s' l' hk' hl' hz' hw' hR
      refine wpAny_bind (push_wp hl' (by omega) fun h' hl'' hs' => ?_)
      refine wpAny_pure ⟨plainId_quiet RX.plain_loop _, ?_⟩
      rw [hba]
      refine ih { s' with heap := h' } (l' ++ [(repl, u)]) (n + 1) R (fun b' o e => (hs'.2 b' fun q => ?_).trans (hk' b' o e)) hl'' (by simp; omega) (by simp only [List.map_append, List.sum_append, List.map_cons, List.map_nil, List.sum_cons, List.sum_nil, hl1]; omega) fun h'' t' k' hs'' => ?_
      · rw [q, hD] at e; cases e
      · have := hR h'' t' k' (hs'.trans hs'')
        rw [List.flatMap_append, List.flatMap_cons, List.flatMap_nil, List.append_nil]
        exact this
    have hlen : (List.take (a - start) (List.drop start x.cps.toList)).length = a - start := by
      rw [List.length_take, List.length_drop]; simp; omega
    simp only [List.length_append, hlen] at hw
    by_cases hd : start < a
    · rw [if_pos hd]
      refine wpAny_bind (slice_wp (by omega) fun t1 k1 => ?_)
      have h5 := ext_toList x.cps start a
      have h6 : (⟨x.cps.extract start a⟩ : Str).length = a - start := by
        rw [← hlen, ← h5]; rfl
      refine wpAny_bind (push_wp (s := { s with toks := k1 }) hl (by omega) fun h' hl' hs' => ?_)
      rw [if_pos (by decide)]
      refine wpAny_bind (wpAny_pure ?_)
      rw [if_pos (by rfl)]
      refine tail _ (l ++ [(⟨x.cps.extract start a⟩, t1)]) (fun b' o e => (hs'.2 b' fun q => ?_).trans (hk b' o e)) hl' (by simp) (by simp only [List.map_append, List.sum_append, List.map_cons, List.map_nil, List.sum_cons, List.sum_nil, h6]; omega) fun h'' t' k' hs'' => ?_
      · rw [q, hD] at e; cases e
      · have := hq h'' t' k' (hs'.trans hs'')
        rw [List.flatMap_append, List.flatMap_cons, List.flatMap_nil, List.append_nil, h5]
        simpa only [List.append_assoc] using this
    · rw [if_neg hd]
      rw [if_pos (by decide)]
      refine wpAny_bind (wpAny_pure ?_)
      rw [if_pos (by rfl)]
      have h7 : a - start = 0 := by omega
      refine tail s l hk hl (by omega) (by omega) fun h'' t' k' hs'' => ?_
      have := hq h'' t' k' hs''
      rw [h7, List.take_zero, List.nil_append] at this
      simpa only [List.append_assoc] using this
end
end Mine
end
section
open PySem PySem.W PySem.Calls PyProof.Rows PySem.Spec
set_option maxRecDepth 100000
namespace Mine
open PySem.Builtin.Re
namespace RX
theorem lk_call : typeLookup (.type "str") "__call__" = pure none := by rw [typeLookup_type, builtinLookup_eq_fast]; kernel_rfl
theorem named (a b : Value) : reNamed "re.Pattern.sub" "sub" ["repl", "string", "count"] 2 [a, b] [] = pure [some a, some b, none] := by kernel_rfl
end RX
section
variable {prog : Program} {w : World} {A : Around} {E : Value → Shared → Prop} {s : Shared} {P : Addr} {code : Array Nat} {x repl : Str} {t u : Tok}
theorem sub_call {out : List Nat} {Q : Value → Shared → Prop} (H : SubOut code x.cps repl.cps.toList 0 out) (hp : IsPat s.heap P code) (hx : x.cps.size ≤ 1000) (ho : out.length ≤ 100000) (h92 : repl.cps.contains 92 = false)
    (hq : ∀ h' t' k', (∀ b o, s.heap.get? b = some o → h'.get? b = some o) → Q (.str ⟨out.toArray⟩ t') { s with heap := h', toks := k' }) :
    wpAny (model prog w) A (call (.builtin "re.Pattern.sub") [.ref P, .str repl u, .str x t]) Q E s := by
  have hT : s.TypeIs (.ref P) "re.Pattern" := by
    obtain ⟨o, vs, T, oT, items, n, a, b, _⟩ := hp
    exact ⟨o, a, b⟩
  refine wpAny_call (codeAny_call_builtin RX.slot_sub.plain RX.entry_sub (RX.slot_sub.check _ _ _ _ _ _ _ _ hT (RX.args_sub _ _ _) ?_))
  show wpAny _ _ (reSubstitute "re.Pattern.sub" "sub" false ⟨[.ref P, .str repl u, .str x t], []⟩) _ _ _
  unfold reSubstitute
  refine wpAny_bind (wpAny_of_eq (RX.named _ _) ?_)
  dsimp only
  refine wpAny_bind (wpAny_pure ?_)
  refine wpAny_bind (wpAny_specialOf_val (T := "str") (by rfl) RX.lk_call ?_)
  rw [if_neg (by decide)]
  refine wpAny_bind (wpAny_of_eq (a := some repl) (by rfl) ?_)
  dsimp only
  refine wpAny_bind (wpAny_pure ?_)
  rw [if_neg (by decide), h92, if_pos (by rfl)]
  refine wpAny_bind (wpAny_pure ?_)
  dsimp only
  refine wpAny_bind (wpAny_holding (wholeTarget_wp hp ?_))
  rw [if_neg (by decide)]
  refine wpAny_bind (wpAny_newList ?_ (by simp [sizeLine_eq]))
  refine wpAny_pure ⟨plainId_quiet RX.plain_loop _, ?_⟩
  have hD : s.heap.get? s.heap.objs.size = none := by
    cases e : s.heap.get? s.heap.objs.size with
    | none => rfl
    | some o => exact absurd (Heap.lt_size e) (Nat.lt_irrefl _)
  refine loop_wp H hp hD hx { s with heap := s.heap.push _ } [] 0 _ (fun b o e => Heap.get?_push_of_some _ e) ⟨0, Heap.get?_push_size _ rfl⟩ (by simp; omega) (by simpa using ho) fun h' t' k' hs => ?_
  refine hq h' t' k' fun b o e => (hs.2 b fun q => ?_).trans (Heap.get?_push_of_some _ e)
  rw [q, hD] at e; cases e

theorem fr_keeps {h₀ h h' : Heap} {L : Addr} {m : Str → Option Value} (F : Fr h₀ L h m) (k : ∀ b o, h.get? b = some o → h'.get? b = some o) : Fr h₀ L h' m := by
  obtain ⟨oL, es, ep, hL, r⟩ := F.ns
  exact ⟨⟨oL, es, ep, k _ _ hL, r⟩, fun b o e => k b o (F.keep b o e), F.above⟩
theorem news_keeps {h₀ h h' : Heap} {L : Addr} {news : List (Addr × Obj)} (N : News h₀ L h news) (k : ∀ b o, h.get? b = some o → h'.get? b = some o) : News h₀ L h' news :=
  fun p hp => ⟨k _ _ (N p hp).1, (N p hp).2⟩

theorem sub_N {h₀ : Heap} {L : Addr} {m : Str → Option Value} {news : List (Addr × Obj)} {out : List Nat} {Q : Value → Shared → Prop} (F : Fr h₀ L s.heap m) (N : News h₀ L s.heap news)
    (hp : IsPat h₀ P code) (H : SubOut code x.cps repl.cps.toList 0 out) (hx : x.cps.size ≤ 1000) (ho : out.length ≤ 100000) (h92 : repl.cps.contains 92 = false)
    (hq : ∀ h' t' k', Fr h₀ L h' m → News h₀ L h' news → Q (.str ⟨out.toArray⟩ t') { s with heap := h', toks := k' }) :
    wpAny (model prog w) A (call (.builtin "re.Pattern.sub") [.ref P, .str repl u, .str x t]) Q E s :=
  sub_call H (hp.keeps F.keep) hx ho h92 fun h' t' k' k => hq h' t' k' (fr_keeps F k) (news_keeps N k)

theorem getSub {h₀ : Heap} {L : Addr} {m : Str → Option Value} {pl : Sem Bool} {Q : Value × List Value → Shared → Prop} (F : Fr h₀ L s.heap m) (hp : IsPat h₀ P code) (h : Q (.builtin "re.Pattern.sub", [.ref P]) s) :
    wpAny (model prog w) A (getMethod (.ref P) "sub" pl) Q E s := by
  obtain ⟨o, vs, T, oT, items, n, a, b, c, _⟩ := hp.keeps F.keep
  refine getMethod_builtin (show s.TypeIs (.ref P) "re.Pattern" from ⟨o, a, b⟩) RX.plainAttrs RX.slot_sub RX.type_sub (fun a' e => ?_) h
  cases e
  exact ⟨o, a, c⟩
end
end Mine
end
section
open PySem PySem.W PySem.Calls PyProof.Rows PySem.Spec
set_option maxRecDepth 100000
namespace Mine

/-- each line end (both signs, a feed or a return) becomes both signs -/
def norm : List Nat → List Nat
  | [] => []
  | c :: r => if c = 13 then (match r with | 10 :: r' => 13 :: 10 :: norm r' | r => 13 :: 10 :: norm r) else if c = 10 then 13 :: 10 :: norm r else c :: norm r
/-- a dot at a line's head becomes two -/
def dot (b : Bool) : List Nat → List Nat
  | [] => []
  | c :: r => if b = true ∧ c = 46 then 46 :: 46 :: dot false r else c :: dot (c == 10) r

theorem norm_len : ∀ l, (norm l).length ≤ 2 * l.length
  | [] => by simp [norm]
  | c :: r => by
    unfold norm
    split
    · split
      · rename_i r'; have := norm_len r'; simp only [List.length_cons]; omega
      · have := norm_len r; simp only [List.length_cons]; omega
    · split
      · have := norm_len r; simp only [List.length_cons]; omega
      · have := norm_len r; simp only [List.length_cons]; omega
theorem dot_len : ∀ (b : Bool) (l : List Nat), (dot b l).length ≤ 2 * l.length
  | _, [] => by simp [dot]
  | b, c :: r => by
    unfold dot
    split
    · have := dot_len false r; simp only [List.length_cons]; omega
    · have := dot_len (c == 10) r; simp only [List.length_cons]; omega

section
variable (x : Array Nat)
theorem getD_lt {i : Nat} (h : i < x.size) : x.getD i 0 = x[i] := by simp [Array.getD, h]
theorem drop_at {i : Nat} (h : i < x.size) : x.toList.drop i = x.getD i 0 :: x.toList.drop (i + 1) := by
  rw [getD_lt x h, List.drop_eq_getElem_cons (by simpa using h)]
  simp
theorem take_at {i start : Nat} (h : start ≤ i) (h' : i < x.size) : (x.toList.drop start).take (i + 1 - start) = (x.toList.drop start).take (i - start) ++ [x.getD i 0] := by
  have e : i + 1 - start = (i - start) + 1 := by omega
  rw [e, List.take_add_one, List.getElem?_drop]
  have e2 : start + (i - start) = i := by omega
  rw [e2, getD_lt x h', List.getElem?_eq_getElem (by simpa using h')]
  simp

theorem norm_out : ∀ (k i start : Nat), x.size - i < k → start ≤ i → i ≤ x.size → (∀ j, start ≤ j → j < i → ¬ IsNL (x.getD j 0)) →
    SubOut C2 x [13, 10] start ((x.toList.drop start).take (i - start) ++ norm (x.toList.drop i))
  | 0, i, start, hk, _, _, _ => by omega
  | k + 1, i, start, hk, h1, h2, h3 => by
    by_cases hi : i < x.size
    · rw [drop_at x hi]
      by_cases hn : IsNL (x.getD i 0)
      · obtain ⟨n, hn1, hn2⟩ := search2_some x start i h1 hi hn h3
        rcases hn with hc | hc
        · rw [if_neg (by omega)] at hn2
          have := norm_out k (i + 1) (i + 1) (by omega) (Nat.le_refl _) (by omega) (fun j a b => by omega)
          rw [Nat.sub_self, List.take_zero, List.nil_append] at this
          have e : norm (x.getD i 0 :: x.toList.drop (i + 1)) = [13, 10] ++ norm (x.toList.drop (i + 1)) := by
            rw [hc]
            conv => lhs; unfold norm
            rw [if_neg (by decide), if_pos rfl]
            rfl
          rw [e, ← List.append_assoc]
          exact .hit h1 (by omega) (by omega) ⟨n, by omega, hn2⟩ this
        · by_cases hb : i + 1 < x.size ∧ x.getD (i + 1) 0 = 10
          · rw [if_pos ⟨hc, hb⟩] at hn2
            have := norm_out k (i + 2) (i + 2) (by omega) (Nat.le_refl _) (by omega) (fun j a b => by omega)
            rw [Nat.sub_self, List.take_zero, List.nil_append] at this
            have e : norm (x.getD i 0 :: x.toList.drop (i + 1)) = [13, 10] ++ norm (x.toList.drop (i + 2)) := by
              rw [hc, drop_at x hb.1, hb.2]; simp [norm]
            rw [e, ← List.append_assoc]
            exact .hit h1 (by omega) (by omega) ⟨n, by omega, hn2⟩ this
          · rw [if_neg (fun q => hb q.2)] at hn2
            have := norm_out k (i + 1) (i + 1) (by omega) (Nat.le_refl _) (by omega) (fun j a b => by omega)
            rw [Nat.sub_self, List.take_zero, List.nil_append] at this
            have e : norm (x.getD i 0 :: x.toList.drop (i + 1)) = [13, 10] ++ norm (x.toList.drop (i + 1)) := by
              rw [hc]
              by_cases h4 : i + 1 < x.size
              · have h5 : x.getD (i + 1) 0 ≠ 10 := fun q => hb ⟨h4, q⟩
                rw [drop_at x h4]
                conv => lhs; unfold norm
                rw [if_pos rfl]
                split
                · rename_i r' e'; injection e' with e1 e2; exact absurd e1 h5
                · rfl
              · rw [List.drop_of_length_le (by simpa using Nat.le_of_not_lt h4)]; simp [norm]
            rw [e, ← List.append_assoc]
            exact .hit h1 (by omega) (by omega) ⟨n, by omega, hn2⟩ this
      · have := norm_out k (i + 1) start (by omega) (by omega) (by omega) (fun j a b => by
          by_cases q : j = i
          · rw [q]; exact hn
          · exact h3 j a (by omega))
        rw [take_at x h1 hi] at this
        have e : norm (x.getD i 0 :: x.toList.drop (i + 1)) = x.getD i 0 :: norm (x.toList.drop (i + 1)) := by
          simp only [IsNL, not_or] at hn
          conv => lhs; unfold norm
          rw [if_neg hn.2, if_neg hn.1]
        rw [e]
        simpa using this
    · have e : i = x.size := by omega
      subst e
      rw [show x.toList.drop x.size = [] from List.drop_of_length_le (by simp)]
      show SubOut C2 x [13, 10] start (_ ++ norm [])
      rw [norm, List.append_nil, List.take_of_length_le (by simp)]
      exact .stop h1 ⟨1, by omega, search2_none x start h3⟩

theorem dot_out (hx : x.size ≤ 1000) : ∀ (k i start : Nat), x.size - i < k → start ≤ i → i ≤ x.size → (∀ j, start ≤ j → j < i → ¬ AtDot x j) →
    SubOut C1 x [46, 46] start ((x.toList.drop start).take (i - start) ++ dot (decide (i = 0 ∨ x.getD (i - 1) 0 = 10)) (x.toList.drop i))
  | 0, i, start, hk, _, _, _ => by omega
  | k + 1, i, start, hk, h1, h2, h3 => by
    by_cases hi : i < x.size
    · rw [drop_at x hi]
      by_cases hn : AtDot x i
      · obtain ⟨n, hn1, hn2⟩ := search1_some x start i h1 hn h3
        have := dot_out hx k (i + 1) (i + 1) (by omega) (Nat.le_refl _) (by omega) (fun j a b => by omega)
        rw [Nat.sub_self, List.take_zero, List.nil_append] at this
        obtain ⟨ha, _, hc⟩ := hn
        have e1 : decide (i + 1 = 0 ∨ x.getD (i + 1 - 1) 0 = 10) = false := by
          rw [Nat.add_sub_cancel, hc]; simp
        rw [e1] at this
        have e : dot (decide (i = 0 ∨ x.getD (i - 1) 0 = 10)) (x.getD i 0 :: x.toList.drop (i + 1)) = [46, 46] ++ dot false (x.toList.drop (i + 1)) := by
          rw [decide_eq_true ha, hc]; simp [dot]
        rw [e, ← List.append_assoc]
        exact .hit h1 (by omega) (by omega) ⟨n, by omega, hn2⟩ this
      · have := dot_out hx k (i + 1) start (by omega) (by omega) (by omega) (fun j a b => by
          by_cases q : j = i
          · rw [q]; exact hn
          · exact h3 j a (by omega))
        rw [take_at x h1 hi] at this
        have e1 : decide (i + 1 = 0 ∨ x.getD (i + 1 - 1) 0 = 10) = (x.getD i 0 == 10) := by
          rw [Nat.add_sub_cancel]
          by_cases q : x.getD i 0 = 10 <;> simp [-Array.getD_eq_getD_getElem?, q]
        rw [e1] at this
        have e : dot (decide (i = 0 ∨ x.getD (i - 1) 0 = 10)) (x.getD i 0 :: x.toList.drop (i + 1)) = x.getD i 0 :: dot (x.getD i 0 == 10) (x.toList.drop (i + 1)) := by
          conv => lhs; unfold dot
          rw [if_neg]
          rintro ⟨q1, q2⟩
          exact hn ⟨of_decide_eq_true q1, hi, q2⟩
        rw [e]
        simpa only [List.append_assoc, List.singleton_append] using this
    · have e : i = x.size := by omega
      subst e
      rw [show x.toList.drop x.size = [] from List.drop_of_length_le (by simp)]
      show SubOut C1 x [46, 46] start (_ ++ dot _ [])
      rw [dot, List.append_nil, List.take_of_length_le (by simp)]
      obtain ⟨n, a, b⟩ := search1_none x start h1 (fun k' hk' => by
        by_cases q : k' < x.size
        · exact h3 k' hk' q
        · exact fun z => q z.2.1)
      exact .stop h1 ⟨n, by omega, b⟩
end

theorem norm_sub (x : Array Nat) : SubOut C2 x [13, 10] 0 (norm x.toList) := by
  have := norm_out x (x.size + 1) 0 0 (by omega) (Nat.le_refl _) (by omega) (fun j a b => by omega)
  simpa using this
theorem dot_sub (x : Array Nat) (hx : x.size ≤ 1000) : SubOut C1 x [46, 46] 0 (dot true x.toList) := by
  have := dot_out x hx (x.size + 1) 0 0 (by omega) (Nat.le_refl _) (by omega) (fun j a b => by omega)
  simpa using this
end Mine
end
section
open PySem PySem.W PySem.Calls PyProof.Rows PySem.Spec
set_option maxRecDepth 100000
namespace Mine

/-- u stands in v -/
def inB (u : List Nat) : List Nat → Bool
  | [] => u.isEmpty
  | c :: r => u.isPrefixOf (c :: r) || inB u r
theorem inB_iff (u : List Nat) : ∀ v, inB u v = true ↔ ∃ i, i + u.length ≤ v.length ∧ (v.drop i).take u.length = u
  | [] => by
    unfold inB
    constructor
    · intro h
      rw [List.isEmpty_iff] at h
      exact ⟨0, by simp [h], by simp [h]⟩
    · rintro ⟨i, h1, _⟩
      simp only [List.length_nil] at h1
      rw [List.isEmpty_iff]
      exact List.eq_nil_of_length_eq_zero (by omega)
  | c :: r => by
    unfold inB
    rw [Bool.or_eq_true, List.isPrefixOf_iff_prefix, inB_iff u r]
    constructor
    · rintro (h | ⟨i, h1, h2⟩)
      · exact ⟨0, by have := h.length_le; omega, by rw [List.drop_zero]; exact (List.prefix_iff_eq_take.mp h).symm⟩
      · exact ⟨i + 1, by simp only [List.length_cons]; omega, by rw [List.drop_succ_cons]; exact h2⟩
    · rintro ⟨i, h1, h2⟩
      cases i with
      | zero => left; rw [List.drop_zero] at h2; rw [← h2]; exact List.take_prefix _ _
      | succ i => right; exact ⟨i, by simp only [List.length_cons] at h1; omega, by rwa [List.drop_succ_cons] at h2⟩

theorem str_len (x : Str) : x.length = x.cps.toList.length := rfl
theorem str_ext {x y : Str} (h : x.cps.toList = y.cps.toList) : x = y := Str.ext' (Array.toList_inj.mp h)
theorem str_beq (x y : Str) : (x == y) = (x.cps.toList == y.cps.toList) := by
  rw [Bool.eq_iff_iff, beq_iff_eq, beq_iff_eq]
  exact ⟨fun h => by rw [h], str_ext⟩
theorem occ_inB (x y : Str) : (Builtin.Str.occurrences y x 0 y.length 1).isEmpty = !inB x.cps.toList y.cps.toList := by
  have h := StrLaws.found_iff y x
  have h2 := inB_iff x.cps.toList y.cps.toList
  have h3 : (!(Builtin.Str.occurrences y x 0 y.length 1).isEmpty) = inB x.cps.toList y.cps.toList := by
    rw [Bool.eq_iff_iff, h, h2]
    constructor
    · rintro ⟨i, a, b⟩; rw [StrLaws.subAt_eq, beq_iff_eq] at b; exact ⟨i, a, b⟩
    · rintro ⟨i, a, b⟩; refine ⟨i, a, ?_⟩; rw [StrLaws.subAt_eq, beq_iff_eq]; exact b
  rw [← h3, Bool.not_not]

theorem slice_ss (y : Str) (i j : Int) (h0 : 0 ≤ i) (h1 : i ≤ j) (h2 : j ≤ y.length) : (Txt.slice y (some i) (some j)).cps.toList = (y.cps.toList.drop i.toNat).take (j - i).toNat := by
  show (StrLaws.sliceText y (some i) (some j)).cps.toList = _
  rw [StrLaws.sliceText_plain ⟨h0, h1, h2⟩]
theorem slice_to (y : Str) (j : Int) (h0 : 0 ≤ j) (h2 : j ≤ y.length) : (Txt.slice y none (some j)).cps.toList = y.cps.toList.take j.toNat := by
  show (StrLaws.sliceText y none (some j)).cps.toList = _
  rw [StrLaws.sliceText_to ⟨h0, h2⟩]
  simp
theorem slice_from (y : Str) (i : Int) (h0 : 0 ≤ i) (h2 : i ≤ y.length) : (Txt.slice y (some i) none).cps.toList = y.cps.toList.drop i.toNat := by
  show (StrLaws.sliceText y (some i) none).cps.toList = _
  rw [StrLaws.sliceText_from ⟨h0, h2⟩]
  show (y.cps.toList.drop i.toNat).take _ = _
  rw [List.take_of_length_le]
  rw [List.length_drop]
  have := str_len y
  omega
theorem slice_inner (y : Str) (h : 0 < y.length) : (Txt.slice y (some 1) (some (-1))).cps.toList = (y.cps.toList.drop 1).take (y.cps.toList.length - 2) := by
  show (StrLaws.sliceText y (some 1) (some (-1))).cps.toList = _
  rw [StrLaws.sliceText_neg_hi y (some 1) (by decide) (by omega)]
  have hl := str_len y
  by_cases h1 : y.length = 1
  · have : (-1 : Int) + (y.length : Int) = 0 := by omega
    rw [this]
    unfold StrLaws.sliceText
    rw [h1]
    have e : (Builtin.Str.strSliceIndices (some 1) (some 0) 1 1) = [] := by decide
    rw [e]
    rw [if_neg (by decide)]
    have : y.cps.toList.length - 2 = 0 := by omega
    rw [this]
    simp
  · rw [StrLaws.sliceText_plain ⟨by decide, by omega, by omega⟩]
    show (y.cps.toList.drop 1).take _ = _
    congr 1
    omega
theorem foldl_one (c : Nat) : ∀ (n : Nat) (acc : Array Nat), ((List.replicate n (#[c] : Array Nat)).foldl (· ++ ·) acc).toList = acc.toList ++ List.replicate n c
  | 0, acc => by simp
  | n + 1, acc => by
    rw [List.replicate_succ, List.foldl_cons, foldl_one c n, List.replicate_succ]
    simp
theorem mul_item (y : Str) (h : 0 < y.length) : (Txt.mul (Txt.item y 0) (y.length : Int)).cps.toList = List.replicate y.cps.toList.length (y.cps.toList.headD 0) := by
  have hl := str_len y
  have hc : Txt.item y 0 = (⟨#[y.cps.toList.headD 0]⟩ : Str) := by
    obtain ⟨a⟩ := y
    obtain ⟨l⟩ := a
    cases l with
    | nil => simp [Str.length] at h
    | cons c r =>
      show (⟨#[((seqIndex? 0 _).bind _).getD 0]⟩ : Str) = _
      rw [StrLaws.seqIndex_nonneg (Int.le_refl 0) (by omega)]
      rfl
  rw [hc]
  unfold Txt.mul
  have h1 : ¬ ((y.length : Int) < 1) := by omega
  rw [if_neg h1]
  by_cases h2 : y.length = 1
  · rw [if_pos (by simp [h2])]
    rw [← hl, h2]
    rfl
  · have : ((y.length : Int) == 1 || (⟨#[y.cps.toList.headD 0]⟩ : Str).length == 0) = false := by
      have e1 : ((y.length : Int) == 1) = false := by rw [beq_eq_false_iff_ne]; omega
      rw [e1]; rfl
    rw [this, if_neg (by decide)]
    have e := foldl_one (y.cps.toList.headD 0) y.length #[]
    rw [← hl]
    exact e

theorem outer_step (w : List Nat) (pre : List Int) (k : Int) : True := trivial
end Mine
end
section
open PySem PySem.W PySem.Calls PyProof.Rows PySem.Spec
set_option maxRecDepth 100000
namespace Mine
variable {w : World} {p : Program} {loose : List Str} {mean : ExcName → Option Value} {mg mb : Str → Option Value}

theorem pat1 {h : Heap} (X : (KK w).In h) : IsPat h 71 C1 := by
  dsimp only [KK] at X
  have h1 := X 71 ⟨_, _, _, _⟩ (by k_is)
  have h2 := X 70 ⟨_, _, _, _⟩ (by k_is)
  exact ⟨_, _, _, _, _, _, h1, rfl, rfl, rfl, rfl, rfl, rfl, h2, rfl, by decide +kernel⟩
theorem pat2 {h : Heap} (X : (KK w).In h) : IsPat h 76 C2 := by
  dsimp only [KK] at X
  have h1 := X 76 ⟨_, _, _, _⟩ (by k_is)
  have h2 := X 75 ⟨_, _, _, _⟩ (by k_is)
  exact ⟨_, _, _, _, _, _, h1, rfl, rfl, rfl, rfl, rfl, rfl, h2, rfl, by decide +kernel⟩
section
variable {prog : Program} {A : Around} {E : Value → Shared → Prop} {s : Shared} {x repl : Str} {t u : Tok} {h₀ : Heap} {L : Addr} {m : Str → Option Value} {news : List (Addr × Obj)} {Q : Value → Shared → Prop}
theorem sub_norm (F : Fr h₀ L s.heap m) (N : News h₀ L s.heap news) (X : (Mine.hd.heap_39 w.params).In h₀) (hr : repl.cps = #[13, 10]) (hx : x.length ≤ 1000)
    (hq : ∀ y h' t' k', y = (⟨(norm x.cps.toList).toArray⟩ : Str) → y.length ≤ 2 * x.length → Fr h₀ L h' m → News h₀ L h' news → Q (.str y t') { s with heap := h', toks := k' }) :
    wpAny (model prog w) A (call (.builtin "re.Pattern.sub") [.ref 76, .str repl u, .str x t]) Q E s := by
  have hl := norm_len x.cps.toList
  have hl' : x.cps.toList.length = x.length := rfl
  exact sub_N F N (pat2 X) (by rw [hr]; exact norm_sub x.cps) hx (by omega) (by rw [hr]; decide +kernel) (fun h' t' k' F' N' => hq _ h' t' k' rfl (by show (norm x.cps.toList).toArray.size ≤ _; rw [List.size_toArray]; omega) F' N')
theorem sub_dot (F : Fr h₀ L s.heap m) (N : News h₀ L s.heap news) (X : (Mine.hd.heap_39 w.params).In h₀) (hr : repl.cps = #[46, 46]) (hx : x.length ≤ 1000)
    (hq : ∀ y h' t' k', y = (⟨(dot true x.cps.toList).toArray⟩ : Str) → y.length ≤ 2 * x.length → Fr h₀ L h' m → News h₀ L h' news → Q (.str y t') { s with heap := h', toks := k' }) :
    wpAny (model prog w) A (call (.builtin "re.Pattern.sub") [.ref 71, .str repl u, .str x t]) Q E s := by
  have hl := dot_len true x.cps.toList
  have hl' : x.cps.toList.length = x.length := rfl
  exact sub_N F N (pat1 X) (by rw [hr]; exact dot_sub x.cps hx) hx (by omega) (by rw [hr]; decide +kernel) (fun h' t' k' F' N' => hq _ h' t' k' rfl (by show (dot true x.cps.toList).toArray.size ≤ _; rw [List.size_toArray]; omega) F' N')
end
local macro_rules | `(tactic| walk_at "getMethod ref") => `(tactic| (k_here; k_dflt (first
  | (refine' getSub ?k1 (pat1 ?k2) ?_; (case k1 => k_asm); (case k2 => k_asm); k_whole)
  | (refine' getSub ?k1 (pat2 ?k2) ?_; (case k1 => k_asm); (case k2 => k_asm); k_whole))))
local macro_rules | `(tactic| walk_at "call builtin:re.Pattern.sub") => `(tactic| (k_here; k_dflt (first
  | (refine' sub_norm ?k1 ?k2 ?k3 ?k4 ?k5 ?_; (case k1 => k_asm); (case k2 => k_asm); (case k3 => k_asm); (case k4 => decide); (case k5 => omega); k_whole; intro y' h' t' k' e' l' F' N')
  | (refine' sub_dot ?k1 ?k2 ?k3 ?k4 ?k5 ?_; (case k1 => k_asm); (case k2 => k_asm); (case k3 => k_asm); (case k4 => decide); (case k5 => omega); k_whole; intro y' h' t' k' e' l' F' N'))))
set_option pp.deepTerms false
set_option pp.maxSteps 8000
set_option maxHeartbeats 4000000
theorem con_quote (x : Str) (tx : Tok) (hx : x.length ≤ 400) :
    Con w p loose mean mg mb 83 12 (fun _ => True) [.str x tx] (fun v new => (∃ t, v = .str ⟨(dot true (norm x.cps.toList)).toArray⟩ t) ∧ new = []) := by
  have hsz := sizeLine_eq
  intro dp un gd cn cs a ccd cl outer A₀ base h₀ L m news s Q E B F X N T hk hd hu hp hret
  dsimp only [PG, KK] at *
  k_dflt (refine' enter0 B F X N T (A := ktrTop dp un gd cn cs L a ccd cl outer) (env := envX cn cs L a ccd cl) (binds := [(Str.ofString "data", .str x tx)]) rfl rfl hk ?k6 ?k7 ?k8 ?k9 ?kB hret ?c2 ?c3 ?c4 ?c5 ?_)
  (case k6 => k_is); (case k7 => k_is); (case k8 => exact Nat.lt_of_le_of_lt (Nat.le_add_right _ _) hd); (case k9 => exact BindsTo.of_eq rfl); (case c5 => decide); (case kB => exact locs rfl); (case c2 => exact rfl); (case c3 => exact rfl); (case c4 => exact rfl); k_whole
  clear B F X N T hret
  intro g L' h' tk' hg F' N' B' X' T'; (try dsimp only); (try k_fold)
  k_steps
  subst_vars
  exact End.intro (by assumption) (by assumption) ⟨⟨_, rfl⟩, rfl⟩
end Mine
end
section
open PySem PySem.W PySem.Calls PyProof.Rows PySem.Spec
set_option maxRecDepth 100000
namespace Mine
variable {w : World} {p : Program} {loose : List Str} {mean : ExcName → Option Value} {mg mb : Str → Option Value}

theorem Con.use {f : Addr} {d : Nat} {Pre : Heap → Prop} {vs : List Value} {Post : Value → Led → Prop} (C : Con w p loose mean mg mb f d Pre vs Post)
    {dp un : Nat} {gd : Option (List Code)} {cn : Str} {cs : Scope} {a : Addr} {ccd : Value} {cl : List (Str × Addr)} {outer : List Env} {A₀ : Around} {base h₀ : Heap} {L : Addr} {m : Str → Option Value} {news : Led} {s : Shared} {Q E : Value → Shared → Prop}
    (B : Below A₀ base outer h₀) (F : Fr h₀ L s.heap m) (X : (hd.heap_39 w.params).In h₀) (N : News h₀ L s.heap news) (T : Top p loose mean mg mb h₀) (hk : cs.kind = .function) (hd : dp + d < recursionLimit) (hu : un + 8 * d < cLine) (hp : Pre s.heap)
    (ret : ∀ r new h' tk', Fr h₀ L h' m → News h₀ L h' (new ++ news) → (∀ q ∈ new, ∀ p ∈ news, p.1 ≠ q.1) → Post r new → Q r { s with heap := h', toks := tk' }) :
    wpAny (model PySem.Challenge.rw_sw0005_01.row.prog w) (ktrTop dp un gd cn cs L a ccd cl outer) (call (.ref f) vs) Q E s := C _ _ _ _ _ _ _ _ _ _ _ _ _ _ _ _ _ _ B F X N T hk hd hu hp ret

def outerF (w : List Nat) (pre : List Int) : List Nat := pre.foldl (fun o k => if w.take k.toNat == w.drop (w.length - k.toNat) then w.take k.toNat else o) []
def dueL : Nat → List Nat → List Nat → Int
  | 0, _, _ => 0
  | f + 1, u, w =>
    if (u == w) = true then 1
    else if inB u w = false then 0
    else if (w.length : Int) - u.length = 1 then -1
    else if (w == List.replicate w.length (w.headD 0)) = true then 0
    else (if (u == (w.drop 1).take (w.length - 2)) = true then 1 else 0) + (if inB (outerF w (rangeKs 1 (w.length - 1))) ((w.drop 1).take (w.length - 2)) = true then 0 else dueL f u (outerF w (rangeKs 1 (w.length - 1))))

theorem due_pos {x y : Str} (h1 : (x == y) = false) (h2 : (Builtin.Str.occurrences y x 0 y.length 1).isEmpty = false) : 0 < y.length := by
  rcases Nat.eq_zero_or_pos y.length with h | h
  · obtain ⟨i, h3, h4⟩ := (StrLaws.found_iff y x).mp (by rw [h2]; rfl)
    have h5 : x.length = 0 := by omega
    have e1 : x.cps = #[] := Array.eq_empty_of_size_eq_zero h5
    have e2 : y.cps = #[] := Array.eq_empty_of_size_eq_zero h
    have : x = y := Str.ext' (by rw [e1, e2])
    simp [this] at h1
  · exact h
local macro_rules | `(tactic| walk_at "subscriptTail Name Constant str int") => `(tactic| (have hpos := due_pos (by assumption) (by assumption); refine item_str (by decide) (by omega) (by omega) ?_; intro _))

def DueTE (h₀ : Heap) (L : Addr) (m₀ : Str → Option Value) (own : Led) (yw : Str) (pre : List Int) (s : Shared) (f : Flow) (s₂ : Shared) : Prop :=
  f = .next ∧ ∃ (o' : Str) (to' : Tok) (m' : Str → Option Value) (h' : Heap) (tk' : Nat), s₂ = { s with heap := h', toks := tk' } ∧ Fr h₀ L h' m' ∧ News h₀ L h' own ∧
        m' (Str.ofString "outer") = some (.str o' to') ∧ (∀ z, z ≠ Str.ofString "size" → z ≠ Str.ofString "outer" → m' z = m₀ z) ∧ o'.cps.toList = outerF yw.cps.toList pre ∧ o'.length < yw.length
theorem due_loop {prog : Program} {A : Around} {E : Value → Shared → Prop} {s : Shared} {env : Env} {h₀ : Heap} {body : List Stmt} {Q : Flow → Shared → Prop} {r : Addr} {t₁ u₁ v₁ : Tok} {m₀ : Str → Option Value} {news : Led} {yw o₀ : Str} {t₀ : Tok}
    (hh : A.handled = none) (hr : IsRange s.heap r 1 (yw.length : Int) 1 t₁ u₁ v₁) (hpos : 0 < yw.length) (hy : yw.length ≤ 100) (F : Fr h₀ env.locals s.heap m₀) (N : News h₀ env.locals s.heap news)
    (hw : m₀ (Str.ofString "outer") = some (.str o₀ t₀)) (ho : o₀.cps.toList = [])
    (turn : ∀ (o : Str) (to : Tok) (pre : List Int) (k : Int) (t : Tok) (h : Heap) (tk : Nat) (own : Led), 1 ≤ k → k < yw.length → o.cps.toList = outerF yw.cps.toList pre → o.length < yw.length →
      Fr h₀ env.locals h (fun y => if y = Str.ofString "size" then some (.int k t) else if y = Str.ofString "outer" then some (.str o to) else m₀ y) → News h₀ env.locals h own →
      wpAny (model prog w) A (execs body env) (DueTE h₀ env.locals m₀ own yw (pre ++ [k]) s) E { s with heap := h, toks := tk })
    (done : ∀ (o : Str) (to : Tok) (u : Str → Option Value) (h : Heap) (tk : Nat), o.cps.toList = outerF yw.cps.toList (rangeKs 1 (yw.length - 1)) → o.length < yw.length → Fr h₀ env.locals h (fun y => if y = Str.ofString "size" then u y else if y = Str.ofString "outer" then some (.str o to) else m₀ y) → News h₀ env.locals h [] → Q .next { s with heap := h, toks := tk }) :
    wpAny (model prog w) A (pyIter (.ref r)) (fun it s₂ => LoopAtV prog w A h₀ env (Str.ofString "size") body Q E it s₂) E s := by
  refine kst_range (σ := Str × Tok) (n := yw.length - 1) (fun _ => []) (fun c => [(Str.ofString "outer", .str c.1 c.2)]) (fun _ => True) [] (fun pre c => c.1.cps.toList = outerF yw.cps.toList pre ∧ c.1.length < yw.length) (o₀, t₀) hh hr ?_ ?_ F .nil trivial ?_ ⟨ho, ?_⟩ ?_ ?_
  · exact small_one (by decide) (by decide) (by omega) (by omega)
  · rw [rangeSize_nat]; omega
  · intro p hp
    rw [List.mem_singleton.mp hp]; exact hw
  · have : o₀.length = o₀.cps.toList.length := rfl
    rw [this, ho]; exact hpos
  · rintro ⟨o, to⟩ pre k t u h tk own hk hlt _ _ ⟨hP, hl⟩ F₁ N₁
    refine wpAny_mono (turn o to pre k t h tk own (by omega) (by omega) hP hl F₁ N₁) (fun f s₂ q => ?_) fun _ _ x => x
    obtain ⟨rfl, o', to', m', h', tk', rfl, F', N', h1, h2, h3, h4⟩ := q
    exact kst_end (o', to') F' N' (fun _ hp => nomatch hp) (fun p hp => hp) rfl trivial (by intro p hp; rw [List.mem_singleton.mp hp]; exact h1) (fun z hz hz' _ => h2 z hz (hz' _ (List.mem_singleton.mpr rfl))) ⟨h3, h4⟩
  · rintro ⟨o, to⟩ u h tk _ ⟨hP, hl⟩ F₁ N₁
    exact done o to u h tk hP hl F₁ N₁
local macro_rules | `(tactic| walk_at "pyIter ref") => `(tactic| (k_here; k_dflt (refine' due_loop ?k1 ?k2 ?k3 ?k4 ?k5 ?k6 ?k7 ?k8 ?_ ?_; (case k1 => exact rfl); (case k2 => assumption); (case k3 => assumption); (case k4 => omega); (case k5 => k_asm); (case k6 => k_asm); (case k7 => exact rfl); (case k8 => decide); k_whole); (all_goals (first | intro o' to' pre' k' t' h' tk' own' l1' l2' e1' e2' F' N' | intro o' to' u' h' tk' e1' e2' F' N'))))

def DueIH (w : World) (p : Program) (loose : List Str) (mean : ExcName → Option Value) (mg mb : Str → Option Value) (n : Nat) : Prop :=
  ∀ (x y : Str) (tx ty : Tok), x.length ≤ 100 → y.length ≤ 100 → y.length < n →
    Con w p loose mean mg mb 109 (12 * n) (fun _ => True) [.str x tx, .str y ty] (fun v new => (∃ t, v = .int (dueL n x.cps.toList y.cps.toList) t) ∧ new = [])
theorem due_use {n : Nat} (C : DueIH w p loose mean mg mb n) {x y : Str} {tx ty : Tok} (hx : x.length ≤ 100) (hy : y.length ≤ 100) (hl : y.length < n)
    {dp un : Nat} {gd : Option (List Code)} {cn : Str} {cs : Scope} {a : Addr} {ccd : Value} {cl : List (Str × Addr)} {outer : List Env} {A₀ : Around} {base h₀ : Heap} {L : Addr} {m : Str → Option Value} {news : Led} {s : Shared} {Q E : Value → Shared → Prop}
    (B : Below A₀ base outer h₀) (F : Fr h₀ L s.heap m) (X : (hd.heap_39 w.params).In h₀) (N : News h₀ L s.heap news) (T : Top p loose mean mg mb h₀) (hk : cs.kind = .function) (hd : dp + 12 * n < recursionLimit) (hu : un + 8 * (12 * n) < cLine)
    (ret : ∀ t h' tk', Fr h₀ L h' m → News h₀ L h' news → Q (.int (dueL n x.cps.toList y.cps.toList) t) { s with heap := h', toks := tk' }) :
    wpAny (model PySem.Challenge.rw_sw0005_01.row.prog w) (ktrTop dp un gd cn cs L a ccd cl outer) (call (.ref 109) [.str x tx, .str y ty]) Q E s := by
  refine (C x y tx ty hx hy hl).use B F X N T hk hd hu trivial fun r new h' tk' F' N' _ hp => ?_
  obtain ⟨⟨t, rfl⟩, rfl⟩ := hp
  exact ret t h' tk' F' N'
local macro_rules | `(tactic| walk_at "call ref") => `(tactic| (k_here; k_dflt (refine' due_use (by assumption) ?x1 ?x2 ?x3 ?k1 ?k2 ?k3 ?k4 ?k5 ?k6 ?k7 ?k8 ?_; (case x1 => omega); (case x2 => omega); (case x3 => omega); (case k1 => k_asm); (case k2 => k_asm); (case k3 => k_asm); (case k4 => k_asm); (case k5 => k_asm); (case k6 => exact rfl); (case k7 => (dsimp only [ktrTop, Around.deeper]; omega)); (case k8 => (dsimp only [ktrTop, Around.deeper]; omega)); k_whole; intro t' h' tk' F' N')))
section
variable {n : Nat} {x y o : Str} {pre : List Int} {k : Int}
theorem outerF_snoc (w : List Nat) (pre : List Int) (k : Int) : outerF w (pre ++ [k]) = if (w.take k.toNat == w.drop (w.length - k.toNat)) = true then w.take k.toNat else outerF w pre := by
  simp only [outerF, List.foldl_append, List.foldl_cons, List.foldl_nil]
theorem due_sl (h1 : 1 ≤ k) (h2 : k < y.length) : (Txt.slice y none (some k) == Txt.slice y (some ((y.length : Int) - k)) none) = (y.cps.toList.take k.toNat == y.cps.toList.drop (y.cps.toList.length - k.toNat)) := by
  rw [str_beq, slice_to y k (by omega) (by omega), slice_from y _ (by omega) (by omega)]
  have := str_len y
  have e : ((y.length : Int) - k).toNat = y.cps.toList.length - k.toNat := by omega
  rw [e]
theorem due_te_yes (h1 : 1 ≤ k) (h2 : k < y.length) (he : (Txt.slice y none (some k) == Txt.slice y (some ((y.length : Int) - k)) none) = true) :
    (Txt.slice y none (some k)).cps.toList = outerF y.cps.toList (pre ++ [k]) ∧ (Txt.slice y none (some k)).length < y.length := by
  rw [due_sl h1 h2] at he
  rw [outerF_snoc, if_pos he, slice_to y k (by omega) (by omega)]
  refine ⟨rfl, ?_⟩
  have := str_len y
  rw [str_len, slice_to y k (by omega) (by omega), List.length_take]
  omega
theorem due_te_no (h1 : 1 ≤ k) (h2 : k < y.length) (he : (Txt.slice y none (some k) == Txt.slice y (some ((y.length : Int) - k)) none) = false) (ho : o.cps.toList = outerF y.cps.toList pre) :
    o.cps.toList = outerF y.cps.toList (pre ++ [k]) := by
  rw [due_sl h1 h2] at he
  rw [outerF_snoc, if_neg (by rw [he]; decide)]
  exact ho
theorem due_a (h1 : (x == y) = true) : 1 = dueL (n + 1) x.cps.toList y.cps.toList := by
  rw [str_beq] at h1
  rw [dueL, if_pos h1]
theorem due_b (h1 : (x == y) = false) (h2 : (Builtin.Str.occurrences y x 0 y.length 1).isEmpty = true) : 0 = dueL (n + 1) x.cps.toList y.cps.toList := by
  rw [str_beq] at h1
  rw [occ_inB, Bool.not_eq_true'] at h2
  rw [dueL, if_neg (by rw [h1]; decide), if_pos h2]
theorem due_c (h1 : (x == y) = false) (h2 : (Builtin.Str.occurrences y x 0 y.length 1).isEmpty = false) (h3 : (y.length : Int) - (x.length : Int) = 1) : -1 = dueL (n + 1) x.cps.toList y.cps.toList := by
  rw [str_beq] at h1
  rw [occ_inB, Bool.not_eq_false'] at h2
  have h3' : (y.cps.toList.length : Int) - (x.cps.toList.length : Int) = 1 := h3
  rw [dueL, if_neg (by rw [h1]; decide), if_neg (by rw [h2]; decide), if_pos h3']
theorem due_d (h1 : (x == y) = false) (h2 : (Builtin.Str.occurrences y x 0 y.length 1).isEmpty = false) (h3 : (y.length : Int) - (x.length : Int) ≠ 1) (h4 : (y == Txt.mul (Txt.item y 0) (y.length : Int)) = true) : 0 = dueL (n + 1) x.cps.toList y.cps.toList := by
  have hp := due_pos h1 h2
  rw [str_beq] at h1 h4
  rw [mul_item y hp] at h4
  rw [occ_inB, Bool.not_eq_false'] at h2
  have h3' : (y.cps.toList.length : Int) - (x.cps.toList.length : Int) ≠ 1 := h3
  rw [dueL, if_neg (by rw [h1]; decide), if_neg (by rw [h2]; decide), if_neg h3', if_pos h4]
theorem due_e {b c : Bool} (h1 : (x == y) = false) (h2 : (Builtin.Str.occurrences y x 0 y.length 1).isEmpty = false) (h3 : (y.length : Int) - (x.length : Int) ≠ 1) (h4 : (y == Txt.mul (Txt.item y 0) (y.length : Int)) = false)
    (ho : o.cps.toList = outerF y.cps.toList (rangeKs 1 (y.length - 1))) (h5 : (x == Txt.slice y (some 1) (some (-1))) = b)
    (h6 : (Builtin.Str.occurrences (Txt.slice y (some 1) (some (-1))) o 0 (Txt.slice y (some 1) (some (-1))).length 1).isEmpty = c) :
    dueL (n + 1) x.cps.toList y.cps.toList = (if b = true then 1 else 0) + (if c = true then dueL n x.cps.toList o.cps.toList else 0) := by
  have hp := due_pos h1 h2
  rw [str_beq] at h1 h4 h5
  rw [mul_item y hp] at h4
  rw [occ_inB, Bool.not_eq_false'] at h2
  rw [slice_inner y hp] at h5
  rw [occ_inB, slice_inner y hp] at h6
  have h3' : (y.cps.toList.length : Int) - (x.cps.toList.length : Int) ≠ 1 := h3
  rw [dueL, if_neg (by rw [h1]; decide), if_neg (by rw [h2]; decide), if_neg h3', if_neg (by rw [h4]; decide), h5]
  have hl := str_len y
  rw [← hl, ← ho, ← h6]
  rw [hl]
  cases inB o.cps.toList ((y.cps.toList.drop 1).take (y.cps.toList.length - 2)) <;> simp
end
set_option pp.deepTerms false
set_option pp.maxSteps 8000
set_option maxHeartbeats 4000000
theorem con_due : ∀ n, DueIH w p loose mean mg mb n := by
  intro n
  induction n with
  | zero => intro x y tx ty _ _ h; exact absurd h (Nat.not_lt_zero _)
  | succ n ih =>
  intro x y tx ty hx hy hyn
  have hsz := sizeLine_eq
  intro dp un gd cn cs a ccd cl outer A₀ base h₀ L m news s Q E B F X N T hk hd hu hp hret
  dsimp only [PG, KK] at *
  k_dflt (refine' enter0 B F X N T (A := ktrTop dp un gd cn cs L a ccd cl outer) (env := envX cn cs L a ccd cl) (binds := [(Str.ofString "word", .str x tx), (Str.ofString "whole", .str y ty)]) rfl rfl hk ?k6 ?k7 ?k8 ?k9 ?kB hret ?c2 ?c3 ?c4 ?c5 ?_)
  (case k6 => k_is); (case k7 => k_is); (case k8 => exact Nat.lt_of_le_of_lt (Nat.le_add_right _ _) hd); (case k9 => exact BindsTo.of_eq rfl); (case c5 => decide); (case kB => exact locs rfl); (case c2 => exact rfl); (case c3 => exact rfl); (case c4 => exact rfl); k_whole
  clear B F X N T hret
  intro g L' h' tk' hg F' N' B' X' T'; (try dsimp only); (try k_fold)
  subst hg
  k_steps
  all_goals first
    | (show DueTE _ _ _ _ _ _ _ _ _
       first
       | (have hq := due_te_yes (pre := by assumption) (by assumption) (by assumption) (by assumption)
          exact ⟨rfl, _, _, _, _, _, rfl, by assumption, by assumption, rfl, fun z h1 h2 => by simp only [h1, h2, if_false], hq.1, hq.2⟩)
       | (exact ⟨rfl, _, _, _, _, _, rfl, by assumption, by assumption, rfl, fun z h1 h2 => by simp only [h1, h2, if_false], due_te_no (by assumption) (by assumption) (by assumption) (by assumption), by assumption⟩))
    | exact End.intro (by assumption) (by assumption) ⟨⟨_, congrArg (Value.int · _) (due_a (by assumption))⟩, rfl⟩
    | exact End.intro (by assumption) (by assumption) ⟨⟨_, congrArg (Value.int · _) (due_b (by assumption) (by assumption))⟩, rfl⟩
    | exact End.intro (by assumption) (by assumption) ⟨⟨_, congrArg (Value.int · _) (due_c (by assumption) (by assumption) (by assumption))⟩, rfl⟩
    | exact End.intro (by assumption) (by assumption) ⟨⟨_, congrArg (Value.int · _) (due_d (by assumption) (by assumption) (by assumption) (by assumption))⟩, rfl⟩
    | exact End.intro (by assumption) (by assumption) ⟨⟨_, congrArg (Value.int · _) (due_e (b := true) (c := true) (by assumption) (by assumption) (by assumption) (by assumption) (by assumption) (by assumption) (by assumption)).symm⟩, rfl⟩
    | exact End.intro (by assumption) (by assumption) ⟨⟨_, congrArg (Value.int · _) (due_e (b := true) (c := false) (by assumption) (by assumption) (by assumption) (by assumption) (by assumption) (by assumption) (by assumption)).symm⟩, rfl⟩
    | exact End.intro (by assumption) (by assumption) ⟨⟨_, congrArg (Value.int · _) (due_e (b := false) (c := true) (by assumption) (by assumption) (by assumption) (by assumption) (by assumption) (by assumption) (by assumption)).symm⟩, rfl⟩
    | exact End.intro (by assumption) (by assumption) ⟨⟨_, congrArg (Value.int · _) (due_e (b := false) (c := false) (by assumption) (by assumption) (by assumption) (by assumption) (by assumption) (by assumption) (by assumption)).symm⟩, rfl⟩
end Mine
end
section
open PySem PySem.W PySem.Calls PyProof.Rows PySem.Spec
set_option maxRecDepth 100000
namespace Mine
variable {w : World} {p : Program} {loose : List Str} {mean : ExcName → Option Value} {mg mb : Str → Option Value}

/-- what a turn of a loop that grows one list of texts must end in -/
def StrTE (h₀ : Heap) (L : Addr) (x : Str) (stored : List Str) (m₀ : Str → Option Value) (D : Addr) (own : Led) (J : List Str → Prop) (s : Shared) (f : Flow) (s₂ : Shared) : Prop :=
  f = .next ∧ ∃ (vs : List Value) (ss : List Str) (n : Nat) (m' : Str → Option Value) (h' : Heap) (tk' : Nat) (news' : Led), s₂ = { s with heap := h', toks := tk' } ∧ Fr h₀ L h' m' ∧ News h₀ L h' news' ∧ (D, listOf vs.toArray n) ∈ news' ∧ (∀ p ∈ own, p ∈ news') ∧
    StrsAre vs ss ∧ (∀ z, z ≠ x → stored.contains z = false → m' z = m₀ z) ∧ J ss

section
variable {prog : Program} {A : Around} {E : Value → Shared → Prop} {s : Shared} {env : Env} {h₀ : Heap} {body : List Stmt} {Q : Flow → Shared → Prop} {r D : Addr} {a₀ b₀ : Int} {t₁ u₁ v₁ : Tok} {m₀ : Str → Option Value} {rest : Led} {x : Str} {n k₀ : Nat} {vs₀ : List Value} {ss₀ : List Str}
theorem str_loopU (stored : List Str) (J : List Int → List Str → Prop)
    (hh : A.handled = none) (hr : IsRange s.heap r a₀ b₀ 1 t₁ u₁ v₁) (hsm : Builtin.Range.small a₀ b₀ 1 = true) (hn : Builtin.Range.rangeSize a₀ b₀ 1 = (n : Int)) (F : Fr h₀ env.locals s.heap m₀) (N : News h₀ env.locals s.heap ((D, listOf vs₀.toArray k₀) :: rest))
    (hoff : ∀ p ∈ rest, p.1 ≠ D) (hi : StrsAre vs₀ ss₀) (hJ : J [] ss₀)
    (turn : ∀ (vs : List Value) (ss : List Str) (n' : Nat) (pre : List Int) (k : Int) (t : Tok) (u : Str → Option Value) (h : Heap) (tk : Nat) (own : Led), k = a₀ + (pre.length : Int) → pre.length < n → (∀ p ∈ rest ++ own, p.1 ≠ D) → StrsAre vs ss → J pre ss →
      Fr h₀ env.locals h (fun y => if y = x then some (.int k t) else if stored.contains y then u y else m₀ y) → News h₀ env.locals h ((D, listOf vs.toArray n') :: (rest ++ own)) →
      wpAny (model prog w) A (execs body env) (StrTE h₀ env.locals x stored m₀ D (rest ++ own) (J (pre ++ [k])) s) E { s with heap := h, toks := tk })
    (done : ∀ (vs : List Value) (ss : List Str) (n' : Nat) (u : Str → Option Value) (h : Heap) (tk : Nat), StrsAre vs ss → J (rangeKs a₀ n) ss →
      Fr h₀ env.locals h (fun y => if y = x then u y else if stored.contains y then u y else m₀ y) → News h₀ env.locals h ((D, listOf vs.toArray n') :: rest) → Q .next { s with heap := h, toks := tk }) :
    wpAny (model prog w) A (pyIter (.ref r)) (fun it s₂ => LoopAtV prog w A h₀ env x body Q E it s₂) E s := by
  refine kst_range (σ := List Value × List Str × Nat) (n := n) (fun c => (D, listOf c.1.toArray c.2.2) :: rest) (fun _ => []) (fun c => StrsAre c.1 c.2.1) stored (fun pre c => J pre c.2.1) (vs₀, ss₀, k₀) hh hr hsm hn F N hi (fun _ hp => nomatch hp) hJ ?_ ?_
  · rintro ⟨vs, ss, n'⟩ pre k t u h tk own hk hlt ho hI hP F₁ N₁
    have ho' : ∀ p ∈ rest ++ own, p.1 ≠ D := fun p hp => (List.mem_append.mp hp).elim (hoff p) fun q => ho p q D (.head _)
    refine wpAny_mono (turn vs ss n' pre k t u h tk own hk hlt ho' hI hP F₁ N₁) (fun f s₂ q => ?_) fun _ _ x => x
    obtain ⟨rfl, vs', ss', n'', m', h', tk', news', rfl, F', N', h1, h2, h3, h4, h5⟩ := q
    exact kst_end (vs', ss', n'') F' N' (fun p hp => by
      rcases List.mem_cons.mp hp with rfl | hp
      · exact h1
      · exact h2 p (List.mem_append_left _ hp)) (fun p hp => h2 p (List.mem_append_right _ hp)) rfl h3 (fun _ hp => nomatch hp) (fun z hz _ hz' => h4 z hz hz') h5
  · rintro ⟨vs, ss, n'⟩ u h tk hI hP F₁ N₁
    exact done vs ss n' u h tk hI hP F₁ N₁

theorem str_loopD (stored : List Str) (J : List Int → List Str → Prop)
    (hh : A.handled = none) (hr : IsRange s.heap r a₀ b₀ (-1) t₁ u₁ v₁) (hsm : Builtin.Range.small a₀ b₀ (-1) = true) (hn : Builtin.Range.rangeSize a₀ b₀ (-1) = (n : Int)) (F : Fr h₀ env.locals s.heap m₀) (N : News h₀ env.locals s.heap ((D, listOf vs₀.toArray k₀) :: rest))
    (hoff : ∀ p ∈ rest, p.1 ≠ D) (hi : StrsAre vs₀ ss₀) (hJ : J [] ss₀)
    (turn : ∀ (vs : List Value) (ss : List Str) (n' : Nat) (pre : List Int) (k : Int) (t : Tok) (u : Str → Option Value) (h : Heap) (tk : Nat) (own : Led), k = a₀ - (pre.length : Int) → pre.length < n → (∀ p ∈ rest ++ own, p.1 ≠ D) → StrsAre vs ss → J pre ss →
      Fr h₀ env.locals h (fun y => if y = x then some (.int k t) else if stored.contains y then u y else m₀ y) → News h₀ env.locals h ((D, listOf vs.toArray n') :: (rest ++ own)) →
      wpAny (model prog w) A (execs body env) (StrTE h₀ env.locals x stored m₀ D (rest ++ own) (J (pre ++ [k])) s) E { s with heap := h, toks := tk })
    (done : ∀ (vs : List Value) (ss : List Str) (n' : Nat) (u : Str → Option Value) (h : Heap) (tk : Nat), StrsAre vs ss → J (downKs a₀ n) ss →
      Fr h₀ env.locals h (fun y => if y = x then u y else if stored.contains y then u y else m₀ y) → News h₀ env.locals h ((D, listOf vs.toArray n') :: rest) → Q .next { s with heap := h, toks := tk }) :
    wpAny (model prog w) A (pyIter (.ref r)) (fun it s₂ => LoopAtV prog w A h₀ env x body Q E it s₂) E s := by
  refine kst_rangeD (σ := List Value × List Str × Nat) (n := n) (fun c => (D, listOf c.1.toArray c.2.2) :: rest) (fun _ => []) (fun c => StrsAre c.1 c.2.1) stored (fun pre c => J pre c.2.1) (vs₀, ss₀, k₀) hh hr hsm hn F N hi (fun _ hp => nomatch hp) hJ ?_ ?_
  · rintro ⟨vs, ss, n'⟩ pre k t u h tk own hk hlt ho hI hP F₁ N₁
    have ho' : ∀ p ∈ rest ++ own, p.1 ≠ D := fun p hp => (List.mem_append.mp hp).elim (hoff p) fun q => ho p q D (.head _)
    refine wpAny_mono (turn vs ss n' pre k t u h tk own hk hlt ho' hI hP F₁ N₁) (fun f s₂ q => ?_) fun _ _ x => x
    obtain ⟨rfl, vs', ss', n'', m', h', tk', news', rfl, F', N', h1, h2, h3, h4, h5⟩ := q
    exact kst_end (vs', ss', n'') F' N' (fun p hp => by
      rcases List.mem_cons.mp hp with rfl | hp
      · exact h1
      · exact h2 p (List.mem_append_left _ hp)) (fun p hp => h2 p (List.mem_append_right _ hp)) rfl h3 (fun _ hp => nomatch hp) (fun z hz _ hz' => h4 z hz hz') h5
  · rintro ⟨vs, ss, n'⟩ u h tk hI hP F₁ N₁
    exact done vs ss n' u h tk hI hP F₁ N₁
end

/-- the stretch of w of k letters from i on -/
def cutL (w : List Nat) (i k : Int) : List Nat := (w.drop i.toNat).take k.toNat
def stepW (w : List Nat) (sz : Int) (ws : List (List Nat)) (i : Int) : List (List Nat) := if ws.contains (cutL w i sz) then ws else ws ++ [cutL w i sz]
def innerW (w : List Nat) (ws : List (List Nat)) (sz : Int) : List (List Nat) := (rangeKs 0 (6 - sz).toNat).foldl (stepW w sz) ws
def lettersL (ns : List Int) : List Nat := ns.map fun n => 48 + (n % 3).toNat
abbrev LL (ss : List Str) : List (List Nat) := ss.map fun x => x.cps.toList

section
variable {prog : Program} {A : Around} {E : Value → Shared → Prop} {s : Shared} {env : Env} {h₀ : Heap} {body : List Stmt} {Q : Flow → Shared → Prop} {r D : Addr} {b₀ sz : Int} {t₁ u₁ v₁ tW tS : Tok} {m₀ : Str → Option Value} {rest : Led} {k₀ : Nat} {vs₀ : List Value} {ss₀ : List Str} {W : Str}
theorem stretch_inner (hh : A.handled = none) (hr : IsRange s.heap r 0 b₀ 1 t₁ u₁ v₁) (hb : b₀ = 6 - sz) (h0 : 0 ≤ sz) (h5 : sz ≤ 5) (F : Fr h₀ env.locals s.heap m₀) (N : News h₀ env.locals s.heap ((D, listOf vs₀.toArray k₀) :: rest))
    (hoff : ∀ p ∈ rest, p.1 ≠ D) (hi : StrsAre vs₀ ss₀) (hW : m₀ (Str.ofString "whole") = some (.str W tW)) (hS : m₀ (Str.ofString "size") = some (.int sz tS))
    (turn : ∀ (vs : List Value) (ss : List Str) (n' : Nat) (pre : List Int) (k : Int) (t : Tok) (h : Heap) (tk : Nat) (own : Led), 0 ≤ k → k + sz ≤ 5 → (∀ p ∈ rest ++ own, p.1 ≠ D) → StrsAre vs ss → LL ss = pre.foldl (stepW W.cps.toList sz) (LL ss₀) → ss.length ≤ ss₀.length + pre.length → pre.length < 6 →
      Fr h₀ env.locals h (fun y => if y = Str.ofString "first" then some (.int k t) else m₀ y) → News h₀ env.locals h ((D, listOf vs.toArray n') :: (rest ++ own)) →
      wpAny (model prog w) A (execs body env) (StrTE h₀ env.locals (Str.ofString "first") [] m₀ D (rest ++ own) (fun ss => LL ss = (pre ++ [k]).foldl (stepW W.cps.toList sz) (LL ss₀) ∧ ss.length ≤ ss₀.length + (pre ++ [k]).length) s) E { s with heap := h, toks := tk })
    (done : ∀ (vs : List Value) (ss : List Str) (n' : Nat) (u : Str → Option Value) (h : Heap) (tk : Nat), StrsAre vs ss → LL ss = innerW W.cps.toList (LL ss₀) sz → ss.length ≤ ss₀.length + 6 →
      Fr h₀ env.locals h (fun y => if y = Str.ofString "first" then u y else m₀ y) → News h₀ env.locals h ((D, listOf vs.toArray n') :: rest) → Q .next { s with heap := h, toks := tk }) :
    wpAny (model prog w) A (pyIter (.ref r)) (fun it s₂ => LoopAtV prog w A h₀ env (Str.ofString "first") body Q E it s₂) E s := by
  subst hb
  refine str_loopU (n := (6 - sz).toNat) [] (fun pre ss => LL ss = pre.foldl (stepW W.cps.toList sz) (LL ss₀) ∧ ss.length ≤ ss₀.length + pre.length) hh hr (small_one (by decide) (by decide) (by omega) (by omega)) ?_ F N hoff hi ⟨rfl, by simp⟩ ?_ ?_
  · rw [rangeSize_nat]; omega
  · rintro vs ss n' pre k t u h tk own hk hlt ho hI ⟨hP, hP'⟩ F₁ N₁
    exact turn vs ss n' pre k t h tk own (by omega) (by omega) ho hI hP hP' (by omega) F₁ N₁
  · rintro vs ss n' u h tk hI ⟨hP, hP'⟩ F₁ N₁
    rw [rangeKs_length] at hP'
    exact done vs ss n' u h tk hI hP (by omega) F₁ N₁
theorem stretch_outer (hh : A.handled = none) (hr : IsRange s.heap r 5 (-1) (-1) t₁ u₁ v₁) (F : Fr h₀ env.locals s.heap m₀) (N : News h₀ env.locals s.heap ((D, listOf vs₀.toArray k₀) :: rest))
    (hoff : ∀ p ∈ rest, p.1 ≠ D) (hi : StrsAre vs₀ []) (hW : m₀ (Str.ofString "whole") = some (.str W tW))
    (turn : ∀ (vs : List Value) (ss : List Str) (n' : Nat) (pre : List Int) (k : Int) (t : Tok) (u : Str → Option Value) (h : Heap) (tk : Nat) (own : Led), 0 ≤ k → k ≤ 5 → (∀ p ∈ rest ++ own, p.1 ≠ D) → StrsAre vs ss → LL ss = pre.foldl (innerW W.cps.toList) [] → ss.length ≤ 6 * pre.length → pre.length < 6 →
      Fr h₀ env.locals h (fun y => if y = Str.ofString "size" then some (.int k t) else if y = Str.ofString "first" then u y else m₀ y) → News h₀ env.locals h ((D, listOf vs.toArray n') :: (rest ++ own)) →
      wpAny (model prog w) A (execs body env) (StrTE h₀ env.locals (Str.ofString "size") [Str.ofString "first"] m₀ D (rest ++ own) (fun ss => LL ss = (pre ++ [k]).foldl (innerW W.cps.toList) [] ∧ ss.length ≤ 6 * (pre ++ [k]).length) s) E { s with heap := h, toks := tk })
    (done : ∀ (vs : List Value) (ss : List Str) (n' : Nat) (u : Str → Option Value) (h : Heap) (tk : Nat), StrsAre vs ss → LL ss = (downKs 5 6).foldl (innerW W.cps.toList) [] →
      Fr h₀ env.locals h (fun y => if y = Str.ofString "size" then u y else if y = Str.ofString "first" then u y else m₀ y) → News h₀ env.locals h ((D, listOf vs.toArray n') :: rest) → Q .next { s with heap := h, toks := tk }) :
    wpAny (model prog w) A (pyIter (.ref r)) (fun it s₂ => LoopAtV prog w A h₀ env (Str.ofString "size") body Q E it s₂) E s := by
  have hc : ∀ y : Str, [Str.ofString "first"].contains y = decide (y = Str.ofString "first") := fun y => by
    by_cases q : y = Str.ofString "first" <;> simp [q]
  refine str_loopD (n := 6) (ss₀ := []) [Str.ofString "first"] (fun pre ss => LL ss = pre.foldl (innerW W.cps.toList) [] ∧ ss.length ≤ 6 * pre.length) hh hr (small_down (by decide) (by decide) (by decide) (by decide)) ?_ F N hoff hi ⟨rfl, by simp⟩ ?_ ?_
  · rw [rangeSize_downNat]; rfl
  · rintro vs ss n' pre k t u h tk own hk hlt ho hI ⟨hP, hP'⟩ F₁ N₁
    simp only [hc, decide_eq_true_eq] at F₁
    exact turn vs ss n' pre k t u h tk own (by omega) (by omega) ho hI hP hP' hlt F₁ N₁
  · rintro vs ss n' u h tk hI ⟨hP, hP'⟩ F₁ N₁
    simp only [hc, decide_eq_true_eq] at F₁
    exact done vs ss n' u h tk hI hP F₁ N₁
end

theorem dg_eq (n : Int) : Str.ofString (toString (n.fmod 3)) = (⟨#[48 + (n % 3).toNat]⟩ : Str) := by
  rw [Int.fmod_eq_emod_of_nonneg _ (by decide)]
  have h : n % 3 = 0 ∨ n % 3 = 1 ∨ n % 3 = 2 := by omega
  rcases h with h | h | h <;> rw [h] <;> decide +kernel
theorem join5 {prog : Program} {A : Around} {E : Value → Shared → Prop} {s : Shared} {h₀ : Heap} {L D : Addr} {news : Led} {n0 n1 n2 n3 n4 : Int} {t0 t1 t2 t3 t4 t : Tok} {sep : Str} {ep : Nat} {Q : Value → Shared → Prop}
    (N : News h₀ L s.heap news) (hm : (D, listOf #[.str (Str.ofString (toString (n0.fmod 3))) t0, .str (Str.ofString (toString (n1.fmod 3))) t1, .str (Str.ofString (toString (n2.fmod 3))) t2, .str (Str.ofString (toString (n3.fmod 3))) t3, .str (Str.ofString (toString (n4.fmod 3))) t4] ep) ∈ news)
    (hsep : sep.cps = #[]) (h : ∀ (W : Str) t' k, W.cps.toList = lettersL [n0, n1, n2, n3, n4] → W.length = 5 → Q (.str W t') { s with toks := k }) : wpAny (model prog w) A (call (.builtin "str.join") [.str sep t, .ref D]) Q E s := by
  rw [dg_eq, dg_eq, dg_eq, dg_eq, dg_eq] at hm
  have hsep' : sep.length = 0 := by show sep.cps.size = 0; rw [hsep]; rfl
  refine join_list (ys := [⟨#[48 + (n0 % 3).toNat]⟩, ⟨#[48 + (n1 % 3).toNat]⟩, ⟨#[48 + (n2 % 3).toNat]⟩, ⟨#[48 + (n3 % 3).toNat]⟩, ⟨#[48 + (n4 % 3).toNat]⟩]) ⟨_, (N _ hm).1, rfl, ep, rfl⟩ (.cons _ _ (.cons _ _ (.cons _ _ (.cons _ _ (.cons _ _ .nil))))) (by rw [hsep']; simp [Str.length]) fun t' k => ?_
  rw [join_empty sep hsep]
  exact h _ t' k rfl rfl
end Mine
end
section
open PySem PySem.W PySem.Calls PyProof.Rows PySem.Spec
set_option maxRecDepth 100000
namespace Mine
variable {w : World} {p : Program} {loose : List Str} {mean : ExcName → Option Value} {mg mb : Str → Option Value}

theorem append_head {prog : Program} {A : Around} {E : Value → Shared → Prop} {s : Shared} {h₀ : Heap} {L D : Addr} {m : Str → Option Value} {tail : Led} {vs : List Value} {n : Nat} {v : Value} {Q : Value → Shared → Prop}
    (F : Fr h₀ L s.heap m) (N : News h₀ L s.heap ((D, listOf vs.toArray n) :: tail)) (ho : ∀ p ∈ tail, p.1 ≠ D) (hz : vs.length ≤ 1000)
    (h : ∀ h', Fr h₀ L h' m → News h₀ L h' ((D, listOf (vs ++ [v]).toArray (n + 1)) :: tail) → Q .none { s with heap := h' }) : wpAny (model prog w) A (call (.builtin "list.append") [.ref D, v]) Q E s := by
  have hsz := sizeLine_eq
  refine append_K F N (.head ho) (fun h' F' N' => h h' F' ?_) (by simp; omega)
  rwa [List.push_toArray] at N'
section
variable {W y : Str} {ss : List Str} {k sz : Int} {pre : List Int} {ws₀ : List (List Nat)} {a : Nat}
theorem any_contains (ss : List Str) (y : Str) : ss.any (· == y) = (LL ss).contains y.cps.toList := by
  induction ss with
  | nil => rfl
  | cons x r ih =>
    have e : (x.cps.toList == y.cps.toList) = (y.cps.toList == x.cps.toList) := by rw [Bool.eq_iff_iff, beq_iff_eq, beq_iff_eq]; exact eq_comm
    rw [List.any_cons, ih, str_beq, e, LL, LL, List.map_cons, List.contains_cons]
theorem news_one {h₀ h : Heap} {L : Addr} {q : Addr × Obj} {tail : Led} (N : News h₀ L h (q :: tail)) : News h₀ L h [q] := fun p hp => N p (by rw [List.mem_singleton.mp hp]; exact .head _)
theorem stretch_cut (hW : W.length = 5) (h0 : 0 ≤ k) (hs : 0 ≤ sz) (h5 : k + sz ≤ 5) : (Txt.slice W (some k) (some (k + sz))).cps.toList = cutL W.cps.toList k sz := by
  rw [slice_ss W k (k + sz) h0 (by omega) (by omega)]
  unfold cutL
  rw [show k + sz - k = sz by omega]
theorem stretch_in (hW : W.length = 5) (h0 : 0 ≤ k) (hs : 0 ≤ sz) (h5 : k + sz ≤ 5) (hJ : LL ss = pre.foldl (stepW W.cps.toList sz) ws₀) (hl : ss.length ≤ a + pre.length)
    (h : ss.any (· == Txt.slice W (some k) (some (k + sz))) = true) : LL ss = (pre ++ [k]).foldl (stepW W.cps.toList sz) ws₀ ∧ ss.length ≤ a + (pre ++ [k]).length := by
  rw [any_contains, stretch_cut hW h0 hs h5] at h
  refine ⟨?_, by simp only [List.length_append, List.length_cons, List.length_nil]; omega⟩
  rw [List.foldl_append, ← hJ, List.foldl_cons, List.foldl_nil, stepW, if_pos h]
theorem stretch_out (hW : W.length = 5) (h0 : 0 ≤ k) (hs : 0 ≤ sz) (h5 : k + sz ≤ 5) (hJ : LL ss = pre.foldl (stepW W.cps.toList sz) ws₀) (hl : ss.length ≤ a + pre.length)
    (h : ss.any (· == Txt.slice W (some k) (some (k + sz))) = false) :
    LL (ss ++ [Txt.slice W (some k) (some (k + sz))]) = (pre ++ [k]).foldl (stepW W.cps.toList sz) ws₀ ∧ (ss ++ [Txt.slice W (some k) (some (k + sz))]).length ≤ a + (pre ++ [k]).length := by
  rw [any_contains, stretch_cut hW h0 hs h5] at h
  refine ⟨?_, by simp only [List.length_append, List.length_cons, List.length_nil]; omega⟩
  rw [List.foldl_append, ← hJ, List.foldl_cons, List.foldl_nil, stepW, if_neg (by rw [h]; decide)]
  show List.map _ (_ ++ _) = _
  rw [List.map_append, List.map_cons, List.map_nil, stretch_cut hW h0 hs h5]
theorem stretch_turn {ss' : List Str} (hJ : LL ss = pre.foldl (innerW W.cps.toList) []) (hl : ss.length ≤ 6 * pre.length) (hJ' : LL ss' = innerW W.cps.toList (LL ss) k) (hl' : ss'.length ≤ ss.length + 6) :
    LL ss' = (pre ++ [k]).foldl (innerW W.cps.toList) [] ∧ ss'.length ≤ 6 * (pre ++ [k]).length := by
  refine ⟨?_, by simp only [List.length_append, List.length_cons, List.length_nil]; omega⟩
  rw [List.foldl_append, ← hJ, List.foldl_cons, List.foldl_nil, hJ']
end
local macro_rules | `(tactic| walk_at "call builtin:list.append") => `(tactic| (k_here; k_dflt (refine' append_head ?k1 ?k2 ?k3 ?k4 ?_; (case k1 => k_asm); (case k2 => k_asm); (case k3 => assumption); (case k4 => (have hl' := StrsAre.len_eq (by assumption); omega)); k_whole; intro h' F' N')))
local macro_rules | `(tactic| walk_at "call type:range") => `(tactic| (k_here; (with_reducible show wpAny _ _ (call _ [_]) _ _ _); ((rename Fr _ _ _ _ => F'); (rename News _ _ _ _ => N'); (with_unfolding_all refine range1_rows F' N' ?_); intro _ _ _ _ _ _ _ _ _)))
local macro_rules | `(tactic| walk_at "call builtin:str.join") => `(tactic| (k_here; k_dflt (refine' join5 ?k1 ?k2 ?k3 ?_; (case k1 => k_asm); (case k2 => k_mem); (case k3 => decide +kernel); k_whole; intro W' t' k' eW' lW')))
local macro_rules | `(tactic| walk_at "pyIter ref") => `(tactic| (k_here; k_dflt (refine' stretch_outer ?k1 ?k2 ?k3 ?k4 ?k5 ?k6 ?k7 ?_ ?_; (case k1 => exact rfl); (case k2 => assumption); (case k3 => k_asm); (case k4 => k_asm); (case k5 => (intro p' hp'; simp only [List.mem_cons, List.not_mem_nil, or_false] at hp'; subst hp'; k_ne)); (case k6 => exact .nil); (case k7 => exact rfl); k_whole); (all_goals (first | intro vs' ss' n' pre' k' t' u' h' tk' own' l1' l2' ho' hI' e1' e2' e3' F' N' | intro vs' ss' n' u' h' tk' hI' e1' F' N'))))
local macro_rules | `(tactic| walk_at "pyIter ref") => `(tactic| (k_here; k_dflt (refine' stretch_inner ?k1 ?k2 ?ka ?kb ?kc ?k3 ?k4 ?k5 ?k6 ?k7 ?k8 ?_ ?_; (case k1 => exact rfl); (case k2 => assumption); (case ka => exact rfl); (case kb => assumption); (case kc => assumption); (case k3 => k_asm); (case k4 => k_asm); (case k5 => assumption); (case k6 => assumption); (case k7 => exact rfl); (case k8 => exact rfl); k_whole); (all_goals (first | intro vs' ss' n' pre' k' t' h' tk' own' l1' l2' ho' hI' e1' e2' e3' F' N' | intro vs' ss' n' u' h' tk' hI' e1' e2' F' N'))))
set_option pp.deepTerms false
set_option pp.maxSteps 8000
set_option maxHeartbeats 4000000
theorem con_stretches (l : Addr) (n0 n1 n2 n3 n4 : Int) (t0 t1 t2 t3 t4 : Tok) :
    Con w p loose mean mg mb 102 12 (fun h => h.IsList l #[.int n0 t0, .int n1 t1, .int n2 t2, .int n3 t3, .int n4 t4]) [.ref l]
      (fun v new => ∃ D vs ss k, v = .ref D ∧ new = [(D, listOf vs.toArray k)] ∧ StrsAre vs ss ∧ LL ss = (downKs 5 6).foldl (innerW (lettersL [n0, n1, n2, n3, n4])) []) := by
  have hsz := sizeLine_eq
  intro dp un gd cn cs a ccd cl outer A₀ base h₀ L m news s Q E B F X N T hk hd hu hp hret
  dsimp only [PG, KK] at *
  k_dflt (refine' enter0 B F X N T (A := ktrTop dp un gd cn cs L a ccd cl outer) (env := envX cn cs L a ccd cl) (binds := [(Str.ofString "numbers", .ref l)]) rfl rfl hk ?k6 ?k7 ?k8 ?k9 ?kB hret ?c2 ?c3 ?c4 ?c5 ?_)
  (case k6 => k_is); (case k7 => k_is); (case k8 => exact Nat.lt_of_le_of_lt (Nat.le_add_right _ _) hd); (case k9 => exact BindsTo.of_eq rfl); (case c5 => decide); (case kB => exact locs rfl); (case c2 => exact rfl); (case c3 => exact rfl); (case c4 => exact rfl); k_whole
  clear B F X N T hret
  intro g L' h' tk' hg F' N' B' X' T'; (try dsimp only); (try k_fold)
  subst hg
  k_steps
  all_goals first
    | exact ⟨rfl, _, _, _, _, _, _, _, rfl, by assumption, by assumption, .head _, (fun p hp => .tail _ hp), by assumption, (fun z h1 h2 => by simp only [h1, if_false]), stretch_in (by assumption) (by assumption) (by assumption) (by assumption) (by assumption) (by assumption) (by assumption)⟩
    | exact ⟨rfl, _, _, _, _, _, _, _, rfl, by assumption, by assumption, .head _, (fun p hp => .tail _ hp), StrsAre.append' (by assumption) (.cons _ _ .nil), (fun z h1 h2 => by simp only [h1, if_false]), stretch_out (by assumption) (by assumption) (by assumption) (by assumption) (by assumption) (by assumption) (by assumption)⟩
    | exact ⟨rfl, _, _, _, _, _, _, _, rfl, by assumption, by assumption, .head _, (fun p hp => .tail _ hp), by assumption, (fun z h1 h2 => by
        have h3 : z ≠ Str.ofString "first" := by rintro rfl; simp at h2
        simp only [h1, h3, if_false]), stretch_turn (by assumption) (by assumption) (by assumption) (by assumption)⟩
    | exact End.intro (by assumption) (news_one (by assumption)) ⟨_, _, _, _, rfl, rfl, by assumption, by rename_i eW _ _ _ _ _; simp only [*]⟩
    | (refine End.intro (by assumption) (news_one (by assumption)) ⟨_, _, _, _, rfl, rfl, by assumption, ?_⟩; (rename (Array.toList _ = lettersL _) => eW); rw [← eW]; assumption)
end Mine
end
section
open PySem PySem.W PySem.Calls PyProof.Rows PySem.Spec
set_option maxRecDepth 100000
namespace Mine
variable {w : World} {p : Program} {loose : List Str} {mean : ExcName → Option Value} {mg mb : Str → Option Value}

section
variable {x y : Str} {tx ty : Tok}
theorem concat_use (hs : x.length + y.length ≤ 10000) {dp un : Nat} {gd : Option (List Code)} {cn : Str} {cs : Scope} {a : Addr} {ccd : Value} {cl : List (Str × Addr)} {outer : List Env} {A₀ : Around} {base h₀ : Heap} {L : Addr} {m : Str → Option Value} {news : Led} {s : Shared} {Q E : Value → Shared → Prop}
    (B : Below A₀ base outer h₀) (F : Fr h₀ L s.heap m) (X : (hd.heap_39 w.params).In h₀) (N : News h₀ L s.heap news) (T : Top p loose mean mg mb h₀) (hk : cs.kind = .function) (hd : dp + 12 < recursionLimit) (hu : un + 96 < cLine)
    (ret : ∀ (z : Str) t h' tk', z.cps.toList = x.cps.toList ++ y.cps.toList → z.length = x.length + y.length → Fr h₀ L h' m → News h₀ L h' news → Q (.str z t) { s with heap := h', toks := tk' }) :
    wpAny (model PySem.Challenge.rw_sw0005_01.row.prog w) (ktrTop dp un gd cn cs L a ccd cl outer) (call (.ref 59) [.str x tx, .str y ty]) Q E s := by
  have hsz := sizeLine_eq
  refine (con_concat x y tx ty (by omega)).use B F X N T hk hd hu trivial fun r new h' tk' F' N' _ hp => ?_
  obtain ⟨⟨t, rfl⟩, rfl⟩ := hp
  exact ret _ t h' tk' (by exact Array.toList_append ..) (Str.length_append x y) F' N'
theorem quote_use (hs : x.length ≤ 400) {dp un : Nat} {gd : Option (List Code)} {cn : Str} {cs : Scope} {a : Addr} {ccd : Value} {cl : List (Str × Addr)} {outer : List Env} {A₀ : Around} {base h₀ : Heap} {L : Addr} {m : Str → Option Value} {news : Led} {s : Shared} {Q E : Value → Shared → Prop}
    (B : Below A₀ base outer h₀) (F : Fr h₀ L s.heap m) (X : (hd.heap_39 w.params).In h₀) (N : News h₀ L s.heap news) (T : Top p loose mean mg mb h₀) (hk : cs.kind = .function) (hd : dp + 12 < recursionLimit) (hu : un + 96 < cLine)
    (ret : ∀ (z : Str) t h' tk', z.cps.toList = dot true (norm x.cps.toList) → z.length ≤ 4 * x.length → Fr h₀ L h' m → News h₀ L h' news → Q (.str z t) { s with heap := h', toks := tk' }) :
    wpAny (model PySem.Challenge.rw_sw0005_01.row.prog w) (ktrTop dp un gd cn cs L a ccd cl outer) (call (.ref 83) [.str x tx]) Q E s := by
  refine (con_quote x tx hs).use B F X N T hk hd hu trivial fun r new h' tk' F' N' _ hp => ?_
  obtain ⟨⟨t, rfl⟩, rfl⟩ := hp
  refine ret _ t h' tk' rfl ?_ F' N'
  have h1 := dot_len true (norm x.cps.toList)
  have h2 := norm_len x.cps.toList
  have h3 : x.cps.toList.length = x.length := rfl
  show (dot true (norm x.cps.toList)).toArray.size ≤ _
  rw [List.size_toArray]; omega
theorem contains_use {l : Addr} {vs : List Value} {ss : List Str} (hi : StrsAre vs ss) {dp un : Nat} {gd : Option (List Code)} {cn : Str} {cs : Scope} {a : Addr} {ccd : Value} {cl : List (Str × Addr)} {outer : List Env} {A₀ : Around} {base h₀ : Heap} {L : Addr} {m : Str → Option Value} {news : Led} {s : Shared} {Q E : Value → Shared → Prop}
    (B : Below A₀ base outer h₀) (F : Fr h₀ L s.heap m) (X : (hd.heap_39 w.params).In h₀) (N : News h₀ L s.heap news) (T : Top p loose mean mg mb h₀) (hk : cs.kind = .function) (hd : dp + 12 < recursionLimit) (hu : un + 96 < cLine) (hl : s.heap.IsList l vs.toArray)
    (ret : ∀ h' tk', Fr h₀ L h' m → News h₀ L h' news → Q (.bool (ss.any (· == y))) { s with heap := h', toks := tk' }) :
    wpAny (model PySem.Challenge.rw_sw0005_01.row.prog w) (ktrTop dp un gd cn cs L a ccd cl outer) (call (.ref 66) [.ref l, .str y ty]) Q E s := by
  refine (con_contains l vs ss y ty hi).use B F X N T hk hd hu hl fun r new h' tk' F' N' _ hp => ?_
  obtain ⟨rfl, rfl⟩ := hp
  exact ret h' tk' F' N'
end

/-- a word's mail -/
def encL (c : Nat) : List Nat := if c = 48 then [98] else if c = 49 then [13, 10, 97] else [13, 10, 46, 46, 97]
def mailL (u : List Nat) : List Nat := u.flatMap encL
/-- a text as it is written: letters with their line ends -/
def rawL (l : List (Nat × List Nat)) : List Nat := l.flatMap fun p => if p.1 = 48 then [98] else if p.1 = 49 then p.2 ++ [97] else p.2 ++ [46, 97]
def GoodRaw (l : List (Nat × List Nat)) : Prop := ∀ p ∈ l, (p.1 = 48 ∨ p.1 = 49 ∨ p.1 = 50) ∧ (p.2 = [10] ∨ p.2 = [13, 10] ∨ p.2 = [13])
theorem norm_cons {c : Nat} {r : List Nat} (h1 : c ≠ 13) (h2 : c ≠ 10) : norm (c :: r) = c :: norm r := by
  conv => lhs; unfold norm
  rw [if_neg h1, if_neg h2]
theorem quote_raw : ∀ (l : List (Nat × List Nat)) (b : Bool), GoodRaw l → dot b (norm (rawL l)) = mailL (l.map (·.1))
  | [], b, _ => by simp [rawL, norm, dot, mailL]
  | (c, e) :: l, b, h => by
    have ih := fun b => quote_raw l b fun p hp => h p (.tail _ hp)
    obtain ⟨h1, h2⟩ := h _ (.head _)
    dsimp only at h1 h2
    have e1 : rawL ((c, e) :: l) = (if c = 48 then [98] else if c = 49 then e ++ [97] else e ++ [46, 97]) ++ rawL l := rfl
    have e2 : mailL (((c, e) :: l).map (·.1)) = encL c ++ mailL (l.map (·.1)) := rfl
    rw [e1, e2]
    rcases h1 with rfl | rfl | rfl <;> rcases h2 with rfl | rfl | rfl <;> simp [norm, dot, encL, ih, norm_cons (c := 97), norm_cons (c := 98), norm_cons (c := 46)]
theorem rawL_snoc (l : List (Nat × List Nat)) (c : Nat) (e : List Nat) : rawL (l ++ [(c, e)]) = rawL l ++ (if c = 48 then [98] else if c = 49 then e ++ [97] else e ++ [46, 97]) := by
  simp [rawL, List.flatMap_append]
theorem rawL_len (l : List (Nat × List Nat)) (h : GoodRaw l) : (rawL l).length ≤ 4 * l.length := by
  induction l with
  | nil => simp [rawL]
  | cons p l ih =>
    obtain ⟨c, e⟩ := p
    have := ih fun p hp => h p (.tail _ hp)
    obtain ⟨h1, h2⟩ := h _ (.head _)
    dsimp only at h1 h2
    have e1 : rawL ((c, e) :: l) = (if c = 48 then [98] else if c = 49 then e ++ [97] else e ++ [46, 97]) ++ rawL l := rfl
    rw [e1, List.length_append, List.length_cons]
    rcases h1 with rfl | rfl | rfl <;> rcases h2 with rfl | rfl | rfl <;> simp <;> omega
end Mine
end
section
open PySem PySem.W PySem.Calls PyProof.Rows PySem.Spec
set_option maxRecDepth 100000
namespace Mine
variable {w : World} {p : Program} {loose : List Str} {mean : ExcName → Option Value} {mg mb : Str → Option Value}

def stepM (w : List Nat) (sz : Int) (ws : List (List Nat)) (i : Int) : List (List Nat) := if ws.contains (mailL (cutL w i sz)) then ws else ws ++ [mailL (cutL w i sz)]
def innerM (w : List Nat) (ws : List (List Nat)) (sz : Int) : List (List Nat) := (rangeKs 0 (6 - sz).toNat).foldl (stepM w sz) ws
abbrev innerN : List Str := [Str.ofString "text", Str.ofString "x", Str.ofString "end", Str.ofString "mail"]
abbrev outerN : List Str := [Str.ofString "first", Str.ofString "text", Str.ofString "x", Str.ofString "end", Str.ofString "mail"]

section
variable {prog : Program} {A : Around} {E : Value → Shared → Prop} {s : Shared} {env : Env} {h₀ : Heap} {body : List Stmt} {Q : Flow → Shared → Prop} {r D l : Addr} {b₀ sz : Int} {t₁ u₁ v₁ tS : Tok} {m₀ : Str → Option Value} {rest : Led} {k₀ : Nat} {vs vs₀ : List Value} {ss₀ : List Str} {ns : List Int}
theorem mail_inner (hh : A.handled = none) (hr : IsRange s.heap r 0 b₀ 1 t₁ u₁ v₁) (hb : b₀ = 6 - sz) (h0 : 1 ≤ sz) (h5 : sz ≤ 5) (F : Fr h₀ env.locals s.heap m₀) (N : News h₀ env.locals s.heap ((D, listOf vs₀.toArray k₀) :: rest))
    (hoff : ∀ p ∈ rest, p.1 ≠ D) (hi : StrsAre vs₀ ss₀) (_hn : m₀ (Str.ofString "numbers") = some (.ref l)) (_hl : h₀.IsList l vs.toArray) (_hI : IntsAre vs ns) (_hS : m₀ (Str.ofString "size") = some (.int sz tS))
    (turn : ∀ (vs : List Value) (ss : List Str) (n' : Nat) (pre : List Int) (k : Int) (t : Tok) (u : Str → Option Value) (h : Heap) (tk : Nat) (own : Led), 0 ≤ k → k + sz ≤ 5 → (∀ p ∈ rest ++ own, p.1 ≠ D) → StrsAre vs ss → LL ss = pre.foldl (stepM (lettersL ns) sz) (LL ss₀) → ss.length ≤ ss₀.length + pre.length → pre.length < 6 →
      Fr h₀ env.locals h (fun y => if y = Str.ofString "first" then some (.int k t) else if innerN.contains y then u y else m₀ y) → News h₀ env.locals h ((D, listOf vs.toArray n') :: (rest ++ own)) →
      wpAny (model prog w) A (execs body env) (StrTE h₀ env.locals (Str.ofString "first") innerN m₀ D (rest ++ own) (fun ss => LL ss = (pre ++ [k]).foldl (stepM (lettersL ns) sz) (LL ss₀) ∧ ss.length ≤ ss₀.length + (pre ++ [k]).length) s) E { s with heap := h, toks := tk })
    (done : ∀ (vs : List Value) (ss : List Str) (n' : Nat) (u : Str → Option Value) (h : Heap) (tk : Nat), StrsAre vs ss → LL ss = innerM (lettersL ns) (LL ss₀) sz → ss.length ≤ ss₀.length + 6 →
      Fr h₀ env.locals h (fun y => if y = Str.ofString "first" then u y else if innerN.contains y then u y else m₀ y) → News h₀ env.locals h ((D, listOf vs.toArray n') :: rest) → Q .next { s with heap := h, toks := tk }) :
    wpAny (model prog w) A (pyIter (.ref r)) (fun it s₂ => LoopAtV prog w A h₀ env (Str.ofString "first") body Q E it s₂) E s := by
  subst hb
  refine str_loopU (n := (6 - sz).toNat) innerN (fun pre ss => LL ss = pre.foldl (stepM (lettersL ns) sz) (LL ss₀) ∧ ss.length ≤ ss₀.length + pre.length) hh hr (small_one (by decide) (by decide) (by omega) (by omega)) ?_ F N hoff hi ⟨rfl, by simp⟩ ?_ ?_
  · rw [rangeSize_nat]; omega
  · rintro vs ss n' pre k t u h tk own hk hlt ho hI ⟨hP, hP'⟩ F₁ N₁
    exact turn vs ss n' pre k t u h tk own (by omega) (by omega) ho hI hP hP' (by omega) F₁ N₁
  · rintro vs ss n' u h tk hI ⟨hP, hP'⟩ F₁ N₁
    rw [rangeKs_length] at hP'
    exact done vs ss n' u h tk hI hP (by omega) F₁ N₁
theorem mail_outer (hh : A.handled = none) (hr : IsRange s.heap r 5 0 (-1) t₁ u₁ v₁) (F : Fr h₀ env.locals s.heap m₀) (N : News h₀ env.locals s.heap ((D, listOf vs₀.toArray k₀) :: rest))
    (hoff : ∀ p ∈ rest, p.1 ≠ D) (hi : StrsAre vs₀ []) (_hn : m₀ (Str.ofString "numbers") = some (.ref l)) (_hl : h₀.IsList l vs.toArray) (_hI : IntsAre vs ns)
    (turn : ∀ (vs : List Value) (ss : List Str) (n' : Nat) (pre : List Int) (k : Int) (t : Tok) (u : Str → Option Value) (h : Heap) (tk : Nat) (own : Led), 1 ≤ k → k ≤ 5 → (∀ p ∈ rest ++ own, p.1 ≠ D) → StrsAre vs ss → LL ss = pre.foldl (innerM (lettersL ns)) [] → ss.length ≤ 6 * pre.length → pre.length < 6 →
      Fr h₀ env.locals h (fun y => if y = Str.ofString "size" then some (.int k t) else if outerN.contains y then u y else m₀ y) → News h₀ env.locals h ((D, listOf vs.toArray n') :: (rest ++ own)) →
      wpAny (model prog w) A (execs body env) (StrTE h₀ env.locals (Str.ofString "size") outerN m₀ D (rest ++ own) (fun ss => LL ss = (pre ++ [k]).foldl (innerM (lettersL ns)) [] ∧ ss.length ≤ 6 * (pre ++ [k]).length) s) E { s with heap := h, toks := tk })
    (done : ∀ (vs : List Value) (ss : List Str) (n' : Nat) (u : Str → Option Value) (h : Heap) (tk : Nat), StrsAre vs ss → LL ss = (downKs 5 5).foldl (innerM (lettersL ns)) [] → ss.length ≤ 30 →
      Fr h₀ env.locals h (fun y => if y = Str.ofString "size" then u y else if outerN.contains y then u y else m₀ y) → News h₀ env.locals h ((D, listOf vs.toArray n') :: rest) → Q .next { s with heap := h, toks := tk }) :
    wpAny (model prog w) A (pyIter (.ref r)) (fun it s₂ => LoopAtV prog w A h₀ env (Str.ofString "size") body Q E it s₂) E s := by
  refine str_loopD (n := 5) (ss₀ := []) outerN (fun pre ss => LL ss = pre.foldl (innerM (lettersL ns)) [] ∧ ss.length ≤ 6 * pre.length) hh hr (small_down (by decide) (by decide) (by decide) (by decide)) ?_ F N hoff hi ⟨rfl, by simp⟩ ?_ ?_
  · rw [rangeSize_downNat]; rfl
  · rintro vs ss n' pre k t u h tk own hk hlt ho hI ⟨hP, hP'⟩ F₁ N₁
    exact turn vs ss n' pre k t u h tk own (by omega) (by omega) ho hI hP hP' (by omega) F₁ N₁
  · rintro vs ss n' u h tk hI ⟨hP, hP'⟩ F₁ N₁
    rw [downKs_length] at hP'
    exact done vs ss n' u h tk hI hP hP' F₁ N₁
end

/-- the text behind the letters of xs, however its lines end -/
def TextOf (xs : List Int) (T : Str) : Prop := ∃ l, GoodRaw l ∧ l.map (·.1) = lettersL xs ∧ T.cps.toList = rawL l
theorem TextOf.len {xs : List Int} {T : Str} (h : TextOf xs T) : T.length ≤ 4 * xs.length := by
  obtain ⟨l, h1, h2, h3⟩ := h
  have h4 := rawL_len l h1
  have h5 : l.length = xs.length := by have := congrArg List.length h2; simpa [lettersL] using this
  rw [str_len, h3]; omega
theorem TextOf.quote {xs : List Int} {T : Str} (h : TextOf xs T) : dot true (norm T.cps.toList) = mailL (lettersL xs) := by
  obtain ⟨l, h1, h2, h3⟩ := h
  rw [h3, quote_raw l true h1, h2]
structure Pick3 (e : Int) (a b c y : Str) : Prop where
  mk :: (out : (e.fmod 3 = 0 ∧ y = a) ∨ (e.fmod 3 = 1 ∧ y = b) ∨ (e.fmod 3 = 2 ∧ y = c))
theorem TextOf.snoc {pre : List Int} {T e y z : Str} {n j : Int} (h : TextOf pre T)
    (he : Pick3 j (Str.ofString "\n") (Str.ofString "\r\n") (Str.ofString "\r") e)
    (hy : Pick3 n (Str.ofString "b") (e ++ Str.ofString "a") (e ++ Str.ofString ".a") y) (hz : z.cps.toList = T.cps.toList ++ y.cps.toList) : TextOf (pre ++ [n]) z := by
  obtain ⟨l, h1, h2, h3⟩ := h
  replace he := he.out
  replace hy := hy.out
  have he' : e.cps.toList = [10] ∨ e.cps.toList = [13, 10] ∨ e.cps.toList = [13] := by
    rcases he with ⟨_, rfl⟩ | ⟨_, rfl⟩ | ⟨_, rfl⟩
    · exact .inl (by decide +kernel)
    · exact .inr (.inl (by decide +kernel))
    · exact .inr (.inr (by decide +kernel))
  have hm : n.fmod 3 = n % 3 := Int.fmod_eq_emod_of_nonneg _ (by decide)
  rw [hm] at hy
  have hy' : y.cps.toList = (if 48 + (n % 3).toNat = 48 then [98] else if 48 + (n % 3).toNat = 49 then e.cps.toList ++ [97] else e.cps.toList ++ [46, 97]) ∧ (48 + (n % 3).toNat = 48 ∨ 48 + (n % 3).toNat = 49 ∨ 48 + (n % 3).toNat = 50) := by
    have hap : ∀ c : Str, (e ++ c).cps.toList = e.cps.toList ++ c.cps.toList := fun c => Array.toList_append ..
    rcases hy with ⟨h, rfl⟩ | ⟨h, rfl⟩ | ⟨h, rfl⟩ <;> rw [h]
    · exact ⟨by rw [show (Str.ofString "b").cps.toList = [98] by decide +kernel]; rfl, by decide⟩
    · rw [hap]; exact ⟨by rw [show (Str.ofString "a").cps.toList = [97] by decide +kernel]; rfl, by decide⟩
    · rw [hap]; exact ⟨by rw [show (Str.ofString ".a").cps.toList = [46, 97] by decide +kernel]; rfl, by decide⟩
  refine ⟨l ++ [(48 + (n % 3).toNat, e.cps.toList)], ?_, ?_, ?_⟩
  · intro p hp
    rcases List.mem_append.mp hp with hp | hp
    · exact h1 p hp
    · rw [List.mem_singleton.mp hp]; exact ⟨hy'.2, he'⟩
  · rw [List.map_append, h2]; simp [lettersL]
  · rw [rawL_snoc, hz, h3, hy'.1]
def TextTE (h₀ : Heap) (L : Addr) (m₀ : Str → Option Value) (own : Led) (pre : List Int) (s : Shared) (f : Flow) (s₂ : Shared) : Prop :=
  f = .next ∧ ∃ (T : Str) (tT : Tok) (m' : Str → Option Value) (h' : Heap) (tk' : Nat) (news' : Led), s₂ = { s with heap := h', toks := tk' } ∧ Fr h₀ L h' m' ∧ News h₀ L h' news' ∧ (∀ p ∈ own, p ∈ news') ∧
    m' (Str.ofString "text") = some (.str T tT) ∧ (∀ z, z ≠ Str.ofString "x" → z ≠ Str.ofString "text" → z ≠ Str.ofString "end" → m' z = m₀ z) ∧ TextOf pre T
section
variable {prog : Program} {A : Around} {E : Value → Shared → Prop} {s : Shared} {env : Env} {h₀ : Heap} {body : List Stmt} {Q : Flow → Shared → Prop} {D : Addr} {tT : Tok} {m₀ : Str → Option Value} {rest : Led} {nn : Nat} {ws : List Value} {xs : List Int} {T₀ : Str}
theorem text_loop (hh : A.handled = none) (hI : IntsAre ws xs) (F : Fr h₀ env.locals s.heap m₀) (N : News h₀ env.locals s.heap ((D, listOf ws.toArray nn) :: rest)) (hT : m₀ (Str.ofString "text") = some (.str T₀ tT)) (hT₀ : T₀.cps = #[])
    (turn : ∀ (T : Str) (tT : Tok) (pre : List Int) (n : Int) (t : Tok) (u : Str → Option Value) (h : Heap) (tk : Nat) (own : Led), n ∈ xs → TextOf pre T → T.length ≤ 4 * pre.length → pre.length < xs.length →
      Fr h₀ env.locals h (fun y => if y = Str.ofString "x" then some (.int n t) else if y = Str.ofString "text" then some (.str T tT) else if [Str.ofString "end"].contains y then u y else m₀ y) → News h₀ env.locals h (((D, listOf ws.toArray nn) :: rest) ++ own) →
      wpAny (model prog w) A (execs body env) (TextTE h₀ env.locals m₀ (((D, listOf ws.toArray nn) :: rest) ++ own) (pre ++ [n]) s) E { s with heap := h, toks := tk })
    (done : ∀ (T : Str) (tT : Tok) (u : Str → Option Value) (h : Heap) (tk : Nat), TextOf xs T → T.length ≤ 4 * xs.length →
      Fr h₀ env.locals h (fun y => if y = Str.ofString "x" then u y else if y = Str.ofString "text" then some (.str T tT) else if [Str.ofString "end"].contains y then u y else m₀ y) → News h₀ env.locals h rest → Q .next { s with heap := h, toks := tk }) :
    wpAny (model prog w) A (pyIter (.ref D)) (fun it s₂ => LoopAtV prog w A h₀ env (Str.ofString "x") body Q E it s₂) E s := by
  refine kst_listL (σ := Str × Tok) (fun _ => (D, listOf ws.toArray nn) :: rest) (fun c => [(Str.ofString "text", .str c.1 c.2)]) (fun _ => True) [Str.ofString "end"] (fun pre c => TextOf pre c.1) (T₀, tT) hh (fun _ => .head _) hI F N trivial (by intro p hp; rw [List.mem_singleton.mp hp]; exact hT) ⟨[], (fun _ h => nomatch h), rfl, by rw [hT₀]; rfl⟩ ?_ ?_
  · rintro ⟨T, tT⟩ pre post n t u h tk own e hn _ _ hP F₁ N₁
    refine wpAny_mono (turn T tT pre n t u h tk own hn hP hP.len (by rw [e]; simp) F₁ N₁) (fun f s₂ q => ?_) fun _ _ x => x
    obtain ⟨rfl, T', tT', m', h', tk', news', rfl, F', N', h1, h2, h3, h4⟩ := q
    refine kst_end (T', tT') F' N' (fun p hp => h1 p (List.mem_append_left _ hp)) (fun p hp => h1 p (List.mem_append_right _ hp)) rfl trivial (by intro p hp; rw [List.mem_singleton.mp hp]; exact h2) (fun z hz hz' hz'' => h3 z hz (hz' _ (List.mem_singleton.mpr rfl)) ?_) h4
    rintro rfl
    simp at hz''
  · rintro ⟨T, tT⟩ u h tk _ hP F₁ N₁
    exact done T tT u h tk hP hP.len F₁ fun p hp => N₁ p (.tail _ hp)
end
theorem len_more {x y : Str} (h : x.length ≤ 10) (h' : y.length ≤ 10) : (x ++ y).length ≤ 20 := by rw [Str.length_append]; omega
theorem item3 (B : Nat) {prog : Program} {A : Around} {E : Value → Shared → Prop} {s : Shared} {h₀ : Heap} {L D : Addr} {news : Led} {a b c : Str} {ta tb tc u : Tok} {e : Int} {ep : Nat} {value slice : Expr} {Q : Value → Shared → Prop}
    (N : News h₀ L s.heap news) (hm : (D, listOf #[.str a ta, .str b tb, .str c tc] ep) ∈ news) (hBa : a.length ≤ B) (hBb : b.length ≤ B) (hBc : c.length ≤ B)
    (h : ∀ y t, Pick3 e a b c y → y.length ≤ B → Q (.str y t) s)
    (hs : subscripted slice false (.ref D) (.int (e.fmod 3) u) = operate [.ref D, .int (e.fmod 3) u] (getItem (.ref D) (.int (e.fmod 3) u)) := by with_unfolding_all rfl) :
    wpAny (model prog w) A (subscriptTail value slice (.ref D) (.int (e.fmod 3) u)) Q E s := by
  have hf : e.fmod 3 = e % 3 := Int.fmod_eq_emod_of_nonneg _ (by decide)
  have h3 : e.fmod 3 = 0 ∨ e.fmod 3 = 1 ∨ e.fmod 3 = 2 := by rw [hf]; omega
  have hl : s.heap.IsList D #[.str a ta, .str b tb, .str c tc] := ⟨_, (N _ hm).1, rfl, ep, rfl⟩
  have key : ∀ v, #[Value.str a ta, .str b tb, .str c tc].toList[(e.fmod 3).toNat]? = some v → Q v s → wpAny (model prog w) A (subscriptTail value slice (.ref D) (.int (e.fmod 3) u)) Q E s := fun v hv hq =>
    tail_any hl.typeIs slot_list_getitem.lookup (wpAny_getItem_list hl (by omega) (by omega) (by simpa using hv) hq) hs
  rcases h3 with h3 | h3 | h3
  · exact key (.str a ta) (by rw [h3]; rfl) (h a ta ⟨.inl ⟨h3, rfl⟩⟩ hBa)
  · exact key (.str b tb) (by rw [h3]; rfl) (h b tb ⟨.inr (.inl ⟨h3, rfl⟩)⟩ hBb)
  · exact key (.str c tc) (by rw [h3]; rfl) (h c tc ⟨.inr (.inr ⟨h3, rfl⟩)⟩ hBc)

theorem cut_letters {ns : List Int} {k sz : Int} (h5 : ns.length = 5) (h0 : 0 ≤ k) (hs : 1 ≤ sz) (h : k + sz ≤ 5) : lettersL (List.take (min (k + sz).toNat ns.length - k.toNat) (List.drop k.toNat ns)) = cutL (lettersL ns) k sz := by
  unfold cutL lettersL
  rw [List.map_take, List.map_drop]
  congr 1
  omega
theorem mail_val {ns : List Int} {k sz : Int} {T z : Str} (h5 : ns.length = 5) (h0 : 0 ≤ k) (hs : 1 ≤ sz) (h : k + sz ≤ 5) (hT : TextOf (List.take (min (k + sz).toNat ns.length - k.toNat) (List.drop k.toNat ns)) T) (ez : z.cps.toList = dot true (norm T.cps.toList)) :
    z.cps.toList = mailL (cutL (lettersL ns) k sz) := by rw [ez, hT.quote, cut_letters h5 h0 hs h]
theorem mail_in {ns : List Int} {k sz : Int} {z : Str} {ss ss₀ : List Str} {pre : List Int} (ez : z.cps.toList = mailL (cutL (lettersL ns) k sz)) (hJ : LL ss = pre.foldl (stepM (lettersL ns) sz) (LL ss₀)) (hl : ss.length ≤ ss₀.length + pre.length)
    (h : ss.any (· == z) = true) : LL ss = (pre ++ [k]).foldl (stepM (lettersL ns) sz) (LL ss₀) ∧ ss.length ≤ ss₀.length + (pre ++ [k]).length := by
  rw [any_contains, ez] at h
  refine ⟨?_, by simp only [List.length_append, List.length_cons, List.length_nil]; omega⟩
  rw [List.foldl_append, ← hJ, List.foldl_cons, List.foldl_nil, stepM, if_pos h]
theorem mail_out {ns : List Int} {k sz : Int} {z : Str} {ss ss₀ : List Str} {pre : List Int} (ez : z.cps.toList = mailL (cutL (lettersL ns) k sz)) (hJ : LL ss = pre.foldl (stepM (lettersL ns) sz) (LL ss₀)) (hl : ss.length ≤ ss₀.length + pre.length)
    (h : ss.any (· == z) = false) : LL (ss ++ [z]) = (pre ++ [k]).foldl (stepM (lettersL ns) sz) (LL ss₀) ∧ (ss ++ [z]).length ≤ ss₀.length + (pre ++ [k]).length := by
  rw [any_contains, ez] at h
  refine ⟨?_, by simp only [List.length_append, List.length_cons, List.length_nil]; omega⟩
  rw [List.foldl_append, ← hJ, List.foldl_cons, List.foldl_nil, stepM, if_neg (by rw [h]; decide)]
  show List.map _ (_ ++ _) = _
  rw [List.map_append, List.map_cons, List.map_nil, ez]
theorem mail_turn {W : List Nat} {ss ss' : List Str} {pre : List Int} {k : Int} (hJ : LL ss = pre.foldl (innerM W) []) (hl : ss.length ≤ 6 * pre.length) (hJ' : LL ss' = innerM W (LL ss) k) (hl' : ss'.length ≤ ss.length + 6) :
    LL ss' = (pre ++ [k]).foldl (innerM W) [] ∧ ss'.length ≤ 6 * (pre ++ [k]).length := by
  refine ⟨?_, by simp only [List.length_append, List.length_cons, List.length_nil]; omega⟩
  rw [List.foldl_append, ← hJ, List.foldl_cons, List.foldl_nil, hJ']
theorem not_in {names : List Str} {z : Str} (h : names.contains z = false) (y : Str) (hy : names.contains y = true) : z ≠ y := by rintro rfl; rw [h] at hy; exact absurd hy (by decide)
theorem add_one {prog : Program} {A : Around} {E : Value → Shared → Prop} {s : Shared} {h₀ : Heap} {L l b : Addr} {m : Str → Option Value} {news : Led} {vs : List Value} {v : Value} {k k' : Nat} {Q : Value → Shared → Prop} (F : Fr h₀ L s.heap m) (N : News h₀ L s.heap news)
    (hl : (l, listOf vs.toArray k) ∈ news) (hb : (b, listOf #[v] k') ∈ news) (hz : vs.length ≤ 1000)
    (h : ∀ D h', Fr h₀ L h' m → News h₀ L h' ((D, listOf (vs ++ [v]).toArray 0) :: news) → Q (.ref D) { s with heap := h' }) : wpAny (model prog w) A (binaryOp .Add (.ref l) (.ref b)) Q E s := by
  have hsz := sizeLine_eq
  exact kmk_add_lit (its := vs.toArray) (its2 := #[v]) F N ⟨_, (N _ hl).1, rfl, k, rfl⟩ ⟨_, (N _ hb).1, rfl, k', rfl⟩ rfl (fun D h' F' N' _ => h D h' F' N') (by show vs.length + 1 ≤ _; omega)
theorem not_one {y z : Str} (h : z ≠ y) : ¬ [y].contains z = true := by simpa using h
theorem not_tr {b : Bool} (h : b = false) : ¬ b = true := by rw [h]; decide
theorem not_sub {z : Str} (h : outerN.contains z = false) : ¬ innerN.contains z = true := by
  intro h'
  rw [List.contains_cons, h', Bool.or_true] at h
  exact absurd h (by decide)
local macro_rules | `(tactic| walk_at "nm_side") => `(tactic| repeat (first | with_reducible rfl | (refine Eq.trans (if_neg ?hc9) ?_; (case hc9 => first | assumption | exact not_tr (by assumption) | exact not_sub (by assumption) | exact not_one (by assumption) | exact not_in (by assumption) _ (by decide +kernel) | exact not_one (not_in (by assumption) _ (by decide +kernel))))))
theorem mails_end {ss : List Str} {z : Str} {X : List (List Nat)} (h : LL ss = X) (ez : z.cps.toList = dot true (norm (Str.ofString "").cps.toList)) : LL (ss ++ [z]) = X ++ [[]] := by
  show List.map _ (_ ++ _) = _
  rw [List.map_append, List.map_cons, List.map_nil, ez]
  rw [show (Str.ofString "").cps.toList = [] by decide +kernel]
  show LL ss ++ _ = _
  rw [h]
  simp [norm, dot]

local macro_rules | `(tactic| walk_at "newList") => `(tactic| (k_here; k_dflt (refine' newList_K ?k1 ?k2 ?_ ?k3; (case k1 => k_asm); (case k2 => k_asm); (case k3 => (simp only [List.length_cons, List.length_nil]; omega)); k_whole); intro l' h' F' N' l1; (try k_lt l1)))
local macro_rules | `(tactic| walk_at "execs cons") => `(tactic| (k_here; with_reducible refine PySem.wpAny_execs_cons ?_))
local macro_rules | `(tactic| walk_at "subscriptTail Name Slice ref ref") => `(tactic| (k_here; (with_reducible show wpAny _ _ (subscriptTail _ (PySem.Expr.Slice _ _ none _) (Value.ref _) (Value.ref _)) _ _ _); k_dflt (refine' kmk_slice_ints ?F ?N ?l ?p ?q ?i ?m ?c ?_ ?s ?t ?z; (case F => k_asm); (case N => k_asm); (case l => exact stays_list (Fr.keep (by assumption)) (by assumption)); (case p => constructor); (case q => constructor); (case i => assumption); (case m => exact kmk_run (by assumption) (by omega) (by omega)); (case c => exact rfl); (case s => with_unfolding_all rfl); (case t => (intro _; with_unfolding_all rfl)); (case z => (have hlz := IntsAre.length (by assumption); simp only [List.size_toArray]; omega))); intro D' ws' h' F' N' l1 hI' hC' hL'; clear hC'))
local macro_rules | `(tactic| walk_at "exec For Name Subscript cons nil") => `(tactic| (k_here; (rename Fr _ _ _ _ => lF'); (with_unfolding_all refine' For_invVF lF' ?k1 ?k2 ?_; (case k1 => exact rfl); (case k2 => exact rfl); k_whole)))
local macro_rules | `(tactic| walk_at "subscriptTail") => `(tactic| (k_here; (with_reducible show wpAny _ _ (subscriptTail _ _ (Value.ref _) (Value.int _ _)) _ _ _); k_dflt (first
  | (refine' item3 10 ?k1 ?k2 ?b1 ?b2 ?b3 ?_; (case k1 => k_asm); (case k2 => k_mem); (case b1 => decide); (case b2 => decide); (case b3 => decide); k_whole; intro y' t' hy' ly')
  | (refine' item3 20 ?k1 ?k2 ?b1 ?b2 ?b3 ?_; (case k1 => k_asm); (case k2 => k_mem); (case b1 => decide); (case b2 => exact len_more (by assumption) (by decide)); (case b3 => exact len_more (by assumption) (by decide)); k_whole; intro y' t' hy' ly'))))
local macro_rules | `(tactic| walk_at "pyIter ref") => `(tactic| (k_here; k_dflt (refine' text_loop ?k1 ?k2 ?k3 ?k4 ?k5 ?k6 ?_ ?_; (case k1 => exact rfl); (case k2 => assumption); (case k3 => k_asm); (case k4 => k_asm); (case k5 => exact rfl); (case k6 => decide +kernel); k_whole); (all_goals (first | intro T' tT' pre' n' t' u' h' tk' own' hn' hT' lT' lp' F' N' | intro T' tT' u' h' tk' hT' lT' F' N'))))
local macro_rules | `(tactic| walk_at "call builtin:list.append") => `(tactic| (k_here; k_dflt (refine' append_head ?k1 ?k2 ?k3 ?k4 ?_; (case k1 => k_asm); (case k2 => k_asm); (case k3 => assumption); (case k4 => (have hl' := StrsAre.len_eq (by assumption); omega)); k_whole; intro h' F' N')))
local macro_rules | `(tactic| walk_at "binaryOp Add ref ref") => `(tactic| (k_here; (with_reducible show wpAny _ _ (binaryOp _ (Value.ref _) (Value.ref _)) _ _ _); k_dflt (refine' add_one ?F ?N ?a ?b ?z ?_; (case F => k_asm); (case N => k_asm); (case a => k_mem); (case b => k_mem); (case z => (have hl' := StrsAre.len_eq (by assumption); omega)); k_whole); intro D' h' F' N'))
local macro_rules | `(tactic| walk_at "call type:range") => `(tactic| (k_here; (with_reducible show wpAny _ _ (call _ [_]) _ _ _); ((rename Fr _ _ _ _ => F'); (rename News _ _ _ _ => N'); (with_unfolding_all refine range1_rows F' N' ?_); intro _ _ _ _ _ _ _ _ _)))
local macro_rules | `(tactic| walk_at "pyIter ref") => `(tactic| (k_here; k_dflt (refine' mail_outer ?k1 ?k2 ?k3 ?k4 ?k5 ?k6 ?k7 ?k8 ?k9 ?_ ?_; (case k1 => exact rfl); (case k2 => assumption); (case k3 => k_asm); (case k4 => k_asm); (case k5 => exact fun _ h' => nomatch h'); (case k6 => exact .nil); (case k7 => exact rfl); (case k8 => assumption); (case k9 => assumption); k_whole); (all_goals (first | intro vs' ss' n' pre' k' t' u' h' tk' own' l1' l2' ho' hI' e1' e2' e3' F' N' | intro vs' ss' n' u' h' tk' hI' e1' e2' F' N'))))
local macro_rules | `(tactic| walk_at "pyIter ref") => `(tactic| (k_here; k_dflt (refine' mail_inner ?k1 ?k2 ?ka ?kb ?kc ?k3 ?k4 ?k5 ?k6 ?k7 ?k8 ?k9 ?k10 ?_ ?_; (case k1 => exact rfl); (case k2 => assumption); (case ka => exact rfl); (case kb => assumption); (case kc => assumption); (case k3 => k_asm); (case k4 => k_asm); (case k5 => assumption); (case k6 => assumption); (case k7 => exact rfl); (case k8 => assumption); (case k9 => assumption); (case k10 => exact rfl); k_whole); (all_goals (first | intro vs' ss' n' pre' k' t' u' h' tk' own' l1' l2' ho' hI' e1' e2' e3' F' N' | intro vs' ss' n' u' h' tk' hI' e1' e2' F' N'))))
local macro_rules | `(tactic| walk_at "call ref") => `(tactic| (k_here; k_dflt (refine' concat_use ?x1 ?k1 ?k2 ?k3 ?k4 ?k5 ?k6 ?k7 ?k8 ?_; (case x1 => first | omega | decide); (case k1 => k_asm); (case k2 => k_asm); (case k3 => k_asm); (case k4 => k_asm); (case k5 => k_asm); (case k6 => exact rfl); (case k7 => (dsimp only [ktrTop, Around.deeper]; omega)); (case k8 => (dsimp only [ktrTop, Around.deeper]; omega)); k_whole; intro z' t' h' tk' ez' lz' F' N')))
local macro_rules | `(tactic| walk_at "call ref") => `(tactic| (k_here; k_dflt (refine' quote_use ?x1 ?k1 ?k2 ?k3 ?k4 ?k5 ?k6 ?k7 ?k8 ?_; (case x1 => first | omega | decide); (case k1 => k_asm); (case k2 => k_asm); (case k3 => k_asm); (case k4 => k_asm); (case k5 => k_asm); (case k6 => exact rfl); (case k7 => (dsimp only [ktrTop, Around.deeper]; omega)); (case k8 => (dsimp only [ktrTop, Around.deeper]; omega)); k_whole; intro z' t' h' tk' ez' lz' F' N')))
local macro_rules | `(tactic| walk_at "call ref") => `(tactic| (k_here; k_dflt (refine' contains_use ?x1 ?k1 ?k2 ?k3 ?k4 ?k5 ?k6 ?k7 ?k8 ?x2 ?_; (case x1 => assumption); (case x2 => is_list); (case k1 => k_asm); (case k2 => k_asm); (case k3 => k_asm); (case k4 => k_asm); (case k5 => k_asm); (case k6 => exact rfl); (case k7 => (dsimp only [ktrTop, Around.deeper]; omega)); (case k8 => (dsimp only [ktrTop, Around.deeper]; omega)); k_whole; intro h' tk' F' N')))

set_option pp.deepTerms false
set_option pp.maxSteps 8000
set_option maxHeartbeats 4000000
theorem con_mails (l : Addr) (vs : List Value) (ns : List Int) (hI : IntsAre vs ns) (h5 : ns.length = 5) :
    Con w p loose mean mg mb 90 30 (fun h => h.IsList l vs.toArray) [.ref l]
      (fun v new => ∃ D vs ss k, v = .ref D ∧ new = [(D, listOf vs.toArray k)] ∧ StrsAre vs ss ∧ LL ss = (downKs 5 5).foldl (innerM (lettersL ns)) [] ++ [[]]) := by
  have hsz := sizeLine_eq
  intro dp un gd cn cs a ccd cl outer A₀ base h₀ L m news s Q E B F X N T hk hd hu hp hret
  dsimp only [PG, KK] at *
  k_dflt (refine' enter0 B F X N T (A := ktrTop dp un gd cn cs L a ccd cl outer) (env := envX cn cs L a ccd cl) (binds := [(Str.ofString "numbers", .ref l)]) rfl rfl hk ?k6 ?k7 ?k8 ?k9 ?kB hret ?c2 ?c3 ?c4 ?c5 ?_)
  (case k6 => k_is); (case k7 => k_is); (case k8 => exact Nat.lt_of_le_of_lt (Nat.le_add_right _ _) hd); (case k9 => exact BindsTo.of_eq rfl); (case c5 => decide); (case kB => exact locs rfl); (case c2 => exact rfl); (case c3 => exact rfl); (case c4 => exact rfl); k_whole
  clear B F X N T hret
  intro g L' h' tk' hg F' N' B' X' T'; (try dsimp only); (try k_fold)
  subst hg
  k_steps
  all_goals first
    | exact ⟨rfl, _, _, _, _, _, _, rfl, by assumption, by assumption, (fun p hp => .tail _ (.tail _ hp)), rfl, (by intro z h1 h2 h3; walk_at "nm_side"), TextOf.snoc (by assumption) (by assumption) (by assumption) (by assumption)⟩
    | exact ⟨rfl, _, _, _, _, _, _, _, rfl, by assumption, by assumption, .head _, (fun p hp => .tail _ hp), by assumption, (by intro z h1 h2; walk_at "nm_side"), mail_in (mail_val (by assumption) (by assumption) (by assumption) (by assumption) (by assumption) (by assumption)) (by assumption) (by assumption) (by assumption)⟩
    | exact ⟨rfl, _, _, _, _, _, _, _, rfl, by assumption, by assumption, .head _, (fun p hp => .tail _ hp), StrsAre.append' (by assumption) (.cons _ _ .nil), (by intro z h1 h2; walk_at "nm_side"), mail_out (mail_val (by assumption) (by assumption) (by assumption) (by assumption) (by assumption) (by assumption)) (by assumption) (by assumption) (by assumption)⟩
    | exact ⟨rfl, _, _, _, _, _, _, _, rfl, by assumption, by assumption, .head _, (fun p hp => .tail _ hp), by assumption, (by intro z h1 h2; walk_at "nm_side"), mail_turn (by assumption) (by assumption) (by assumption) (by assumption)⟩
    | exact End.intro (by assumption) (news_one (by assumption)) ⟨_, _, _, _, rfl, rfl, StrsAre.append' (by assumption) (.cons _ _ .nil), mails_end (by assumption) (by assumption)⟩
end Mine
end
section
open PySem PySem.W PySem.Calls PyProof.Rows PySem.Spec
set_option maxRecDepth 100000
namespace Mine
variable {w : World} {p : Program} {loose : List Str} {mean : ExcName → Option Value} {mg mb : Str → Option Value}

/-- a text without three dots in a row, its last sign no dot -/
def Dotless (m : List Nat) : Prop := (∀ k : Nat, m[k]? = some 46 → m[k + 1]? = some 46 → m[k + 2]? ≠ some 46) ∧ (∀ k : Nat, m[k]? = some 46 → k + 1 < m.length)
theorem dotless_cons (c : Nat) (m : List Nat) (h : Dotless m) : Dotless (encL c ++ m) := by
  obtain ⟨h1, h2⟩ := h
  unfold encL
  split
  · refine ⟨fun k a b => ?_, fun k a => ?_⟩
    · match k with
      | 0 => simp at a
      | k + 1 => simp at a b ⊢; exact h1 k a b
    · match k with
      | 0 => simp at a
      | k + 1 => simp at a ⊢; have := h2 k a; omega
  · split
    · refine ⟨fun k a b => ?_, fun k a => ?_⟩
      · match k with
        | 0 => simp at a
        | 1 => simp at a
        | 2 => simp at a
        | k + 3 => simp at a b ⊢; exact h1 k a b
      · match k with
        | 0 => simp at a
        | 1 => simp at a
        | 2 => simp at a
        | k + 3 => simp at a ⊢; have := h2 k a; omega
    · refine ⟨fun k a b => ?_, fun k a => ?_⟩
      · match k with
        | 0 => simp at a
        | 1 => simp at a
        | 2 => simp
        | 3 => simp at b
        | 4 => simp at a
        | k + 5 => simp at a b ⊢; exact h1 k a b
      · match k with
        | 0 => simp at a
        | 1 => simp at a
        | 2 => simp
        | 3 => simp
        | 4 => simp at a
        | k + 5 => simp at a ⊢; have := h2 k a; omega
theorem dotless_mail : ∀ u : List Nat, Dotless (mailL u)
  | [] => ⟨fun k a => by simp [mailL] at a, fun k a => by simp [mailL] at a⟩
  | c :: u => dotless_cons c (mailL u) (dotless_mail u)

def wantL (m : List Nat) : List Nat := m ++ ([45, 46, 46, 46] ++ (m ++ ([46, 46, 46, 45] ++ m)))
theorem wantL_get (m : List Nat) (k : Nat) : (wantL m)[k]? = if k < m.length then m[k]? else if k = m.length then some 45 else if k < m.length + 4 then some 46 else if k < 2 * m.length + 4 then m[k - (m.length + 4)]? else if k < 2 * m.length + 7 then some 46 else if k = 2 * m.length + 7 then some 45 else m[k - (2 * m.length + 8)]? := by
  unfold wantL
  rw [List.getElem?_append]
  split
  · rfl
  rename_i h1
  rw [List.getElem?_append]
  split
  · rename_i h2
    simp only [List.length_cons, List.length_nil] at h2
    have : k - m.length = 0 ∨ k - m.length = 1 ∨ k - m.length = 2 ∨ k - m.length = 3 := by omega
    rcases this with e | e | e | e <;> rw [e]
    · rw [if_pos (by omega)]; rfl
    · rw [if_neg (by omega), if_pos (by omega)]; rfl
    · rw [if_neg (by omega), if_pos (by omega)]; rfl
    · rw [if_neg (by omega), if_pos (by omega)]; rfl
  rename_i h2
  simp only [List.length_cons, List.length_nil] at h2
  rw [if_neg (by omega), if_neg (by omega), List.getElem?_append]
  simp only [List.length_cons, List.length_nil]
  split
  · rename_i h3
    rw [if_pos (by omega)]
    congr 1 <;> omega
  rename_i h3
  rw [if_neg (by omega), List.getElem?_append]
  split
  · rename_i h4
    simp only [List.length_cons, List.length_nil] at h4
    have : k - m.length - (0 + 1 + 1 + 1 + 1) - m.length = 0 ∨ k - m.length - (0 + 1 + 1 + 1 + 1) - m.length = 1 ∨ k - m.length - (0 + 1 + 1 + 1 + 1) - m.length = 2 ∨ k - m.length - (0 + 1 + 1 + 1 + 1) - m.length = 3 := by omega
    rcases this with e | e | e | e <;> rw [e]
    · rw [if_pos (by omega)]; rfl
    · rw [if_pos (by omega)]; rfl
    · rw [if_pos (by omega)]; rfl
    · rw [if_neg (by omega), if_pos (by omega)]; rfl
  · rename_i h4
    simp only [List.length_cons, List.length_nil] at h4 ⊢
    rw [if_neg (by omega), if_neg (by omega)]
    congr 1
    omega
theorem wantL_len (m : List Nat) : (wantL m).length = 3 * m.length + 8 := by simp [wantL]; omega
theorem get_pre {m : List Nat} {k : Nat} (h : k < m.length) : (wantL m)[k]? = m[k]? := by rw [wantL_get, if_pos h]
theorem get_mid {m : List Nat} {k : Nat} (h : m.length + 4 ≤ k) (h' : k < 2 * m.length + 4) : (wantL m)[k]? = m[k - (m.length + 4)]? := by rw [wantL_get, if_neg (by omega), if_neg (by omega), if_neg (by omega), if_pos h']
theorem get_end {m : List Nat} {k : Nat} (h : 2 * m.length + 8 ≤ k) : (wantL m)[k]? = m[k - (2 * m.length + 8)]? := by rw [wantL_get, if_neg (by omega), if_neg (by omega), if_neg (by omega), if_neg (by omega), if_neg (by omega), if_neg (by omega)]
/-- three dots in a row at k -/
def Dots (l : List Nat) (k : Nat) : Prop := l[k]? = some 46 ∧ l[k + 1]? = some 46 ∧ l[k + 2]? = some 46
theorem want_noA {m : List Nat} (hm : Dotless m) {k : Nat} (h : k < m.length + 1) : ¬ Dots (wantL m) k := by
  rintro ⟨a, b, c⟩
  obtain ⟨h1, h2⟩ := hm
  by_cases k1 : k < m.length
  · rw [get_pre k1] at a
    have e1 := h2 k a
    rw [get_pre e1] at b
    have e2 := h2 _ b
    rw [get_pre e2] at c
    exact h1 k a b c
  · rw [wantL_get, if_neg k1, if_pos (by omega)] at a; cases a
theorem want_noB {m : List Nat} (hm : Dotless m) {k : Nat} (h : m.length + 4 ≤ k) (h' : k < 2 * m.length + 4) : ¬ Dots (wantL m) k := by
  rintro ⟨a, b, c⟩
  obtain ⟨h1, h2⟩ := hm
  rw [get_mid h h'] at a
  have e1 := h2 _ a
  rw [get_mid (by omega) (by omega), show k + 1 - (m.length + 4) = k - (m.length + 4) + 1 by omega] at b
  have e2 := h2 _ b
  rw [get_mid (by omega) (by omega), show k + 2 - (m.length + 4) = k - (m.length + 4) + 2 by omega] at c
  exact h1 _ a b c
theorem want_noC {m : List Nat} (hm : Dotless m) {k : Nat} (h : 2 * m.length + 7 ≤ k) : ¬ Dots (wantL m) k := by
  rintro ⟨a, b, c⟩
  obtain ⟨h1, h2⟩ := hm
  by_cases k1 : k = 2 * m.length + 7
  · rw [wantL_get, if_neg (by omega), if_neg (by omega), if_neg (by omega), if_neg (by omega), if_neg (by omega), if_pos k1] at a; cases a
  · rw [get_end (by omega)] at a
    rw [get_end (by omega), show k + 1 - (2 * m.length + 8) = k - (2 * m.length + 8) + 1 by omega] at b
    rw [get_end (by omega), show k + 2 - (2 * m.length + 8) = k - (2 * m.length + 8) + 2 by omega] at c
    exact h1 _ a b c
theorem want_yesA (m : List Nat) : Dots (wantL m) (m.length + 1) := by
  refine ⟨?_, ?_, ?_⟩ <;> rw [wantL_get, if_neg (by omega), if_neg (by omega), if_pos (by omega)]
theorem want_yesB (m : List Nat) : Dots (wantL m) (2 * m.length + 4) := by
  refine ⟨?_, ?_, ?_⟩ <;> rw [wantL_get, if_neg (by omega), if_neg (by omega)]
  · by_cases h : m.length = 0
    · rw [if_neg (by omega), if_neg (by omega), if_pos (by omega)]
    · rw [if_neg (by omega), if_neg (by omega), if_pos (by omega)]
  · rw [if_neg (by omega), if_neg (by omega), if_pos (by omega)]
  · rw [if_neg (by omega), if_neg (by omega), if_pos (by omega)]
open StrLaws in
theorem at_dots {x : Str} {m : List Nat} (hx : x.cps.toList = wantL m) (k : Nat) : At x (Str.ofString "...") x.length k ↔ Dots (wantL m) k := by
  have hl : x.length = (wantL m).length := by rw [str_len, hx]
  have h3 : (Str.ofString "...").length = 3 := by decide +kernel
  have h4 : (Str.ofString "...").cps.toList = [46, 46, 46] := by decide +kernel
  unfold At
  rw [subAt_eq, hx, h3, h4, hl, beq_iff_eq]
  generalize wantL m = l
  constructor
  · rintro ⟨_, b⟩
    refine ⟨?_, ?_, ?_⟩
    · have := congrArg (fun l => l[0]?) b; simpa using this
    · have := congrArg (fun l => l[1]?) b; simpa using this
    · have := congrArg (fun l => l[2]?) b; simpa using this
  · rintro ⟨a, b, c⟩
    have hc := (List.getElem?_eq_some_iff.mp c).1
    refine ⟨by omega, ?_⟩
    apply List.ext_getElem?
    intro i
    rw [List.getElem?_take]
    match i with
    | 0 => simpa using a
    | 1 => simpa using b
    | 2 => simpa using c
    | i + 3 => rw [if_neg (by omega)]; rfl
open StrLaws Builtin Builtin.Str in
theorem want_cuts {x : Str} {m : List Nat} (hx : x.cps.toList = wantL m) (hm : Dotless m) : occurrences x (Str.ofString "...") 0 x.length (x.length + 1) = [m.length + 1, 2 * m.length + 4] := by
  obtain ⟨f, hc, hn⟩ := occ_tight x (Str.ofString "...") (by decide +kernel)
  have h3 : (Str.ofString "...").length = 3 := by decide +kernel
  have yA := (at_dots hx _).mpr (want_yesA m)
  have yB := (at_dots hx _).mpr (want_yesB m)
  generalize occurrences x (Str.ofString "...") 0 x.length (x.length + 1) = cuts at hc
  match cuts, hc with
  | [], hc => exact absurd yA (hn _ (by have : f = 0 := hc; omega))
  | c :: r, ⟨_, hA, hno, hr⟩ =>
    have e1 : c = m.length + 1 := by
      by_cases h1 : c < m.length + 1
      · exact absurd ((at_dots hx _).mp hA) (want_noA hm h1)
      · by_cases h2 : m.length + 1 < c
        · exact absurd yA (hno _ (by omega) h2)
        · omega
    subst e1
    rw [h3] at hr
    match r, hr with
    | [], hr => exact absurd yB (hn _ (by have : f = m.length + 1 + 3 := hr; omega))
    | d :: r, ⟨h0, hA', hno', hr'⟩ =>
      have e2 : d = 2 * m.length + 4 := by
        by_cases h1 : d < 2 * m.length + 4
        · exact absurd ((at_dots hx _).mp hA') (want_noB hm (by omega) h1)
        · by_cases h2 : 2 * m.length + 4 < d
          · exact absurd yB (hno' _ (by omega) h2)
          · omega
      subst e2
      rw [h3] at hr'
      match r, hr' with
      | [], _ => rfl
      | e :: r, ⟨h0, hA'', _, _⟩ => exact absurd ((at_dots hx _).mp hA'') (want_noC hm (by omega))
open StrLaws Builtin Builtin.Str in
theorem want_split {x : Str} {m : List Nat} (hx : x.cps.toList = wantL m) (hm : Dotless m) : Txt.split x (Str.ofString "...") = [⟨(m ++ [45]).toArray⟩, ⟨m.toArray⟩, ⟨(45 :: m).toArray⟩] := by
  have h3 : (Str.ofString "...").length = 3 := by decide +kernel
  have hl : x.length = 3 * m.length + 8 := by rw [str_len, hx, wantL_len]
  have yA := (at_dots hx _).mpr (want_yesA m)
  have hk := PySem.W.kind_le _ _ yA.2
  unfold Txt.split
  rw [if_neg (by rw [h3]; simp; omega), want_cuts hx hm, if_neg (by exact Bool.false_ne_true), partsBetween_eq, h3]
  show [strSub x 0 (m.length + 1), strSub x (m.length + 1 + 3) (2 * m.length + 4), strSub x (2 * m.length + 4 + 3) x.length] = _
  have e0 : strSub x 0 (m.length + 1) = ⟨(m ++ [45]).toArray⟩ := by
    apply str_ext
    rw [strSub_toList, hx]
    show ((wantL m).drop 0).take _ = m ++ [45]
    unfold wantL
    rw [List.drop_zero, List.take_append]
    simp [List.take_of_length_le]
  have e1 : strSub x (m.length + 1 + 3) (2 * m.length + 4) = ⟨m.toArray⟩ := by
    apply str_ext
    rw [strSub_toList, hx]
    show ((wantL m).drop _).take _ = m
    have : wantL m = (m ++ [45, 46, 46, 46]) ++ (m ++ ([46, 46, 46, 45] ++ m)) := by simp [wantL]
    rw [this, List.drop_left' (by simp), List.take_left' (by omega)]
  have e2 : strSub x (2 * m.length + 4 + 3) x.length = ⟨(45 :: m).toArray⟩ := by
    apply str_ext
    rw [strSub_toList, hx]
    show ((wantL m).drop _).take _ = 45 :: m
    have : wantL m = (m ++ [45, 46, 46, 46] ++ m ++ [46, 46, 46]) ++ (45 :: m) := by simp [wantL]
    rw [this, List.drop_left' (by simp; omega), List.take_of_length_le (by simp [hl]; omega)]
  rw [e0, e1, e2]
open StrLaws Builtin Builtin.Str in
theorem occ_span (x y : Str) (lo hi : Nat) : (occurrences x y lo hi 1).isEmpty = false ↔ ∃ i, lo ≤ i ∧ i + y.length ≤ hi ∧ (x.cps.toList.drop i).take y.length = y.cps.toList := by
  rw [occ_eq]
  rcases occ_first x y hi 1 (Nat.le_refl _) (List.range' lo (hi + 1 - lo)) lo (fun i hi => by have := List.mem_range'_1.mp hi; omega) with ⟨h0, hn⟩ | ⟨pre, a, post, e, h0, ha, hn⟩
  · rw [h0]
    constructor
    · intro h; exact absurd h (by decide)
    · rintro ⟨i, h1, h2, h3⟩
      refine absurd ?_ (hn i (by rw [List.mem_range'_1]; omega))
      exact ⟨h2, by rw [subAt_eq, h3]; exact beq_self_eq_true _⟩
  · constructor
    · intro _
      have hm : a ∈ List.range' lo (hi + 1 - lo) := by rw [e]; simp
      exact ⟨a, (List.mem_range'_1.mp hm).1, ha.1, by have := ha.2; rwa [subAt_eq, beq_iff_eq] at this⟩
    · intro _
      generalize (forIn (List.range' lo (hi + 1 - lo)) ((#[] : Array Nat), lo) (occBody x y hi 1)).run.fst = arr at h0
      cases hA : arr.toList with
      | nil =>
        have : arr = #[] := Array.toList_inj.mp hA
        rw [this] at h0; simp at h0
      | cons b t => rfl
def gotL (m v : List Nat) : List Nat := m ++ (45 :: (v ++ (45 :: m)))
open Builtin in
theorem find4_in (x y : Str) (i j : Nat) (hij : j ≤ x.length) (hi : i ≤ j) : (decide (0 ≤ find4 x y i j)) = inB y.cps.toList ((x.cps.toList.take j).drop i) := by
  have e1 : fromIndex x.length (i : Int) = i := by unfold fromIndex; omega
  have e2 : fromIndex x.length (j : Int) = j := by unfold fromIndex; omega
  unfold find4
  rw [e1, e2, Nat.min_eq_left hij]
  have h := occ_span x y i j
  have h2 := inB_iff y.cps.toList ((x.cps.toList.take j).drop i)
  have hx := str_len x
  have hy := str_len y
  have key : (∃ k, i ≤ k ∧ k + y.length ≤ j ∧ (x.cps.toList.drop k).take y.length = y.cps.toList) ↔ inB y.cps.toList ((x.cps.toList.take j).drop i) = true := by
    rw [h2]
    constructor
    · rintro ⟨k, a, b, c⟩
      refine ⟨k - i, ?_, ?_⟩
      · simp only [List.length_drop, List.length_take]; omega
      · rw [List.drop_drop, show i + (k - i) = k by omega, List.drop_take, List.take_take, Nat.min_eq_left (by omega), ← hy, c]
    · rintro ⟨k, a, b⟩
      simp only [List.length_drop, List.length_take] at a
      refine ⟨i + k, by omega, by omega, ?_⟩
      rw [List.drop_drop, List.drop_take, List.take_take, Nat.min_eq_left (by omega)] at b
      rw [hy]; exact b
  rw [Bool.eq_iff_iff, ← key, ← h, decide_eq_true_iff]
  cases Builtin.Str.occurrences x y i j 1 with
  | nil => exact ⟨fun h => absurd h (by decide), fun h => absurd h (by decide)⟩
  | cons a r => exact ⟨fun _ => rfl, fun _ => Int.natCast_nonneg a⟩
theorem got_in {x y : Str} {m v : List Nat} (hx : x.cps.toList = gotL m v) (hy : y.cps.toList = m) (a c : Nat) (ha : a = m.length + 1) (hc : c = m.length + 1) : decide (0 ≤ find4 x y (a : Nat) ((x.length : Int) - (c : Nat))) = inB m v := by
  have hl : x.length = 2 * m.length + v.length + 2 := by rw [str_len, hx]; simp [gotL]; omega
  have e : ((x.length : Int) - (c : Nat)) = ((m.length + 1 + v.length : Nat) : Int) := by omega
  subst ha hc
  rw [e, find4_in x y _ _ (by omega) (by omega), hx, hy]
  congr 1
  have : gotL m v = ((m ++ [45]) ++ v) ++ (45 :: m) := by simp [gotL]
  rw [this, List.take_left' (by simp; omega), List.drop_left' (by simp)]
theorem em_use {m v : List Nat} {x y : Str} {tx ty : Tok} (hm : Dotless m) (hx : x.cps.toList = wantL m) (hy : y.cps.toList = gotL m v) (hlx : x.length < 1000) (hly : y.length < 1000) {dp un : Nat} {gd : Option (List Code)} {cn : Str} {cs : Scope} {a : Addr} {ccd : Value} {cl : List (Str × Addr)} {outer : List Env} {A₀ : Around} {base h₀ : Heap} {L : Addr} {mm : Str → Option Value} {news : Led} {s : Shared} {Q E : Value → Shared → Prop}
    (B : Below A₀ base outer h₀) (F : Fr h₀ L s.heap mm) (X : (hd.heap_39 w.params).In h₀) (N : News h₀ L s.heap news) (T : Top p loose mean mg mb h₀) (hk : cs.kind = .function) (hd : dp + 12 < recursionLimit) (hu : un + 96 < cLine)
    (ret : ∀ h' tk', Fr h₀ L h' mm → News h₀ L h' news → Q (.bool (inB m v)) { s with heap := h', toks := tk' }) :
    wpAny (model PySem.Challenge.rw_sw0005_01.row.prog w) (ktrTop dp un gd cn cs L a ccd cl outer) (call (.ref 38) [.str x tx, .str y ty]) Q E s := by
  have hxl := str_len x
  have hyl := str_len y
  rw [hx, wantL_len] at hxl
  have hyl' : y.length = 2 * m.length + v.length + 2 := by rw [hyl, hy]; simp [gotL]; omega
  have l1 : (⟨(m ++ [45]).toArray⟩ : Str).length = m.length + 1 := by rw [str_len]; simp
  have l2 : (⟨m.toArray⟩ : Str).length = m.length := by rw [str_len]
  have l3 : (⟨(45 :: m).toArray⟩ : Str).length = m.length + 1 := by rw [str_len]; simp
  refine (con_em x y _ _ _ tx ty ?_ (want_split hx hm) hlx hly (by rw [l2]; omega) (by rw [l1]; omega) (by rw [l3]; omega) ?_ ?_ (by rw [l1, l3, hyl']; omega)).use B F X N T hk hd hu trivial fun r new h' tk' F' N' _ hp => ?_
  · rw [occ_span]
    have h := (at_dots hx _).mpr (want_yesA m)
    refine ⟨_, Nat.zero_le _, h.1, ?_⟩
    have := h.2
    rwa [StrLaws.subAt_eq, beq_iff_eq] at this
  · unfold Txt.startswith
    rw [Bool.and_eq_true, decide_eq_true_iff, StrLaws.subAt_eq, beq_iff_eq, l1, hyl', hy]
    refine ⟨by omega, ?_⟩
    show ((gotL m v).drop 0).take _ = m ++ [45]
    have : gotL m v = (m ++ [45]) ++ (v ++ (45 :: m)) := by simp [gotL]
    rw [this, List.drop_zero, List.take_left' (by simp)]
  · unfold Txt.endswith
    rw [Bool.and_eq_true, decide_eq_true_iff, StrLaws.subAt_eq, beq_iff_eq, l3, hyl', hy]
    refine ⟨by omega, ?_⟩
    show ((gotL m v).drop _).take _ = 45 :: m
    have : gotL m v = (m ++ [45] ++ v) ++ (45 :: m) := by simp [gotL]
    rw [this, List.drop_left' (by simp; omega), List.take_of_length_le (by simp)]
  · obtain ⟨rfl, rfl⟩ := hp
    rw [got_in hy rfl _ _ l1 l3]
    exact ret h' tk' F' N'
end Mine
end
section
open PySem PySem.W PySem.Calls PyProof.Rows PySem.Spec
set_option maxRecDepth 100000
namespace Mine
variable {w : World} {p : Program} {loose : List Str} {mean : ExcName → Option Value} {mg mb : Str → Option Value}

def aboveS (ws : List (List Nat)) (told : List Int) (m : List Nat) (acc k : Int) : Int := if told.getD k.toNat 0 ≠ 0 ∧ inB m (ws.getD k.toNat []) = true then acc + told.getD k.toNat 0 else acc
def aboveF (ws : List (List Nat)) (told : List Int) (m : List Nat) (pre : List Int) : Int := pre.foldl (aboveS ws told m) 0
def toldS (ws : List (List Nat)) (told : List Int) (k : Int) : List Int := told ++ [if 0 < k then -(aboveF ws told (ws.getD k.toNat []) (rangeKs 0 k.toNat)) else 1]
def toldF (ws : List (List Nat)) (pre : List Int) : List Int := pre.foldl (toldS ws) []
def toldL (ws : List (List Nat)) : List Int := toldF ws (rangeKs 0 ws.length)

def Pow (told : List Int) : Prop := ∀ j, (told.getD j 0).natAbs ≤ 2 ^ j
theorem pow_le {n m : Nat} (h : n ≤ m) : 2 ^ n ≤ 2 ^ m := Nat.pow_le_pow_right (by decide) h
theorem Pow.small {told : List Int} (h : Pow told) {j : Nat} (hj : j ≤ 20) : (told.getD j 0).natAbs ≤ 1048576 := Nat.le_trans (h j) (pow_le hj)
theorem aboveF_snoc (ws : List (List Nat)) (told : List Int) (m : List Nat) (pre : List Int) (k : Int) : aboveF ws told m (pre ++ [k]) = aboveS ws told m (aboveF ws told m pre) k := by
  unfold aboveF; rw [List.foldl_append, List.foldl_cons, List.foldl_nil]
theorem toldF_snoc (ws : List (List Nat)) (pre : List Int) (k : Int) : toldF ws (pre ++ [k]) = toldS ws (toldF ws pre) k := by
  unfold toldF; rw [List.foldl_append, List.foldl_cons, List.foldl_nil]
theorem above_small {ws : List (List Nat)} {told : List Int} {m : List Nat} {a : Int} {n : Nat} (h : Pow told) (ha : a.natAbs + 1 ≤ 2 ^ n) : (aboveS ws told m a (n : Nat)).natAbs + 1 ≤ 2 ^ (n + 1) := by
  have e : 2 ^ (n + 1) = 2 ^ n + 2 ^ n := by rw [Nat.pow_succ]; omega
  unfold aboveS
  have := h n
  rw [Int.toNat_natCast]
  split <;> omega
theorem told_pow {told : List Int} {a : Int} (h : Pow told) (ha : a.natAbs ≤ 2 ^ told.length) : Pow (told ++ [a]) := by
  intro j
  rcases Nat.lt_trichotomy j told.length with hj | hj | hj
  · have : (told ++ [a]).getD j 0 = told.getD j 0 := by simp [List.getD, List.getElem?_append_left hj]
    rw [this]; exact h j
  · subst hj; simpa [List.getD] using ha
  · have : (told ++ [a]).getD j 0 = 0 := by rw [List.getD, List.getElem?_eq_none (by simp; omega)]; rfl
    rw [this]; exact Nat.zero_le _
theorem rangeKs_snoc (n : Nat) : rangeKs 0 (n + 1) = rangeKs 0 n ++ [((n : Nat) : Int)] := by simp [rangeKs, List.range_succ]
theorem above_range {ws : List (List Nat)} {told : List Int} {m : List Nat} (h : Pow told) : ∀ n : Nat, (aboveF ws told m (rangeKs 0 n)).natAbs + 1 ≤ 2 ^ n
  | 0 => by show (0 : Int).natAbs + 1 ≤ 1; decide
  | n + 1 => by rw [rangeKs_snoc, aboveF_snoc]; exact above_small h (above_range h n)
theorem told_step {ws : List (List Nat)} {told : List Int} {n : Nat} (h : Pow told) (hl : told.length = n) : Pow (toldS ws told (n : Nat)) := by
  unfold toldS
  refine told_pow h ?_
  rw [hl, Int.toNat_natCast]
  have := above_range (ws := ws) (m := ws.getD n []) h n
  split
  · rw [Int.natAbs_neg]; omega
  · exact Nat.one_le_two_pow

/-- what a turn of the inner loop must end in -/
def AboveTE (h₀ : Heap) (L : Addr) (m₀ : Str → Option Value) (own : Led) (X : Int) (s : Shared) (f : Flow) (s₂ : Shared) : Prop :=
  f = .next ∧ ∃ (a : Int) (ta : Tok) (m' : Str → Option Value) (h' : Heap) (tk' : Nat) (news' : Led), s₂ = { s with heap := h', toks := tk' } ∧ Fr h₀ L h' m' ∧ News h₀ L h' news' ∧ (∀ p ∈ own, p ∈ news') ∧
    m' (Str.ofString "above") = some (.int a ta) ∧ (∀ z, z ≠ Str.ofString "longer" → z ≠ Str.ofString "above" → m' z = m₀ z) ∧ a = X
/-- what a turn of the outer loop must end in -/
def ToldTE (h₀ : Heap) (L : Addr) (x : Str) (stored : List Str) (m₀ : Str → Option Value) (D : Addr) (own : Led) (X : List Int) (s : Shared) (f : Flow) (s₂ : Shared) : Prop :=
  f = .next ∧ ∃ (us : List Value) (n : Nat) (m' : Str → Option Value) (h' : Heap) (tk' : Nat) (news' : Led), s₂ = { s with heap := h', toks := tk' } ∧ Fr h₀ L h' m' ∧ News h₀ L h' news' ∧ (D, listOf us.toArray n) ∈ news' ∧ (∀ p ∈ own, p ∈ news') ∧
    IntsAre us X ∧ (∀ z, z ≠ x → stored.contains z = false → m' z = m₀ z)
abbrev toldN : List Str := [Str.ofString "front", Str.ofString "back", Str.ofString "wanted", Str.ofString "above", Str.ofString "longer"]
section
variable {prog : Program} {A : Around} {E : Value → Shared → Prop} {s : Shared} {env : Env} {h₀ : Heap} {body : List Stmt} {Q : Flow → Shared → Prop} {r D l : Addr} {b₀ : Int} {t₁ u₁ v₁ tA : Tok} {m₀ : Str → Option Value} {rest : Led} {k₀ : Nat} {us us₀ vs : List Value} {ss : List Str} {told : List Int} {want : Str} {tw : Tok} {x : Str}
theorem above_loop (hh : A.handled = none) (hr : IsRange s.heap r 0 b₀ 1 t₁ u₁ v₁) (h0 : 0 ≤ b₀) (h5 : b₀ < 20) (F : Fr h₀ env.locals s.heap m₀) (N : News h₀ env.locals s.heap ((D, listOf us.toArray k₀) :: rest)) (hp : Pow told) (_hI : IntsAre us told) (_hl : (told.length : Int) = b₀)
    (hA : m₀ (Str.ofString "above") = some (.int 0 tA)) (_hW : m₀ (Str.ofString "place") = some (.int b₀ tw)) (_hss : StrsAre vs ss)
    (turn : ∀ (a : Int) (ta : Tok) (pre : List Int) (k : Int) (t : Tok) (h : Heap) (tk : Nat) (own : Led), 0 ≤ k → k < b₀ → a.natAbs ≤ 1048576 → (told.getD k.toNat 0).natAbs ≤ 1048576 → a = aboveF (LL ss) told (ss.getD b₀.toNat Str.empty).cps.toList pre →
      Fr h₀ env.locals h (fun y => if y = Str.ofString "longer" then some (.int k t) else if y = Str.ofString "above" then some (.int a ta) else m₀ y) → News h₀ env.locals h (((D, listOf us.toArray k₀) :: rest) ++ own) →
      wpAny (model prog w) A (execs body env) (AboveTE h₀ env.locals m₀ (((D, listOf us.toArray k₀) :: rest) ++ own) (aboveS (LL ss) told (ss.getD b₀.toNat Str.empty).cps.toList a k) s) E { s with heap := h, toks := tk })
    (done : ∀ (a : Int) (ta : Tok) (u : Str → Option Value) (h : Heap) (tk : Nat), a = aboveF (LL ss) told (ss.getD b₀.toNat Str.empty).cps.toList (rangeKs 0 b₀.toNat) → a.natAbs ≤ 1048576 →
      Fr h₀ env.locals h (fun y => if y = Str.ofString "longer" then u y else if y = Str.ofString "above" then some (.int a ta) else m₀ y) → News h₀ env.locals h ((D, listOf us.toArray k₀) :: rest) → Q .next { s with heap := h, toks := tk }) :
    wpAny (model prog w) A (pyIter (.ref r)) (fun it s₂ => LoopAtV prog w A h₀ env (Str.ofString "longer") body Q E it s₂) E s := by
  obtain ⟨n, rfl⟩ : ∃ n : Nat, b₀ = (n : Int) := ⟨b₀.toNat, by omega⟩
  refine kst_range (σ := Int × Tok) (n := n) (fun _ => (D, listOf us.toArray k₀) :: rest) (fun c => [(Str.ofString "above", .int c.1 c.2)]) (fun _ => True) [] (fun pre c => c.1 = aboveF (LL ss) told (ss.getD n Str.empty).cps.toList pre ∧ c.1.natAbs + 1 ≤ 2 ^ pre.length) (0, tA) hh hr (small_one (by decide) (by decide) (by omega) (by omega)) (by rw [rangeSize_nat]; omega) F N trivial (by intro p hp; rw [List.mem_singleton.mp hp]; exact hA) ⟨rfl, by show (0 : Int).natAbs + 1 ≤ 1; decide⟩ ?_ ?_
  · rintro ⟨a, ta⟩ pre k t u h tk own hk hlt _ _ ⟨hP, hB⟩ F₁ N₁
    have ek : k = (pre.length : Nat) := by omega
    subst ek
    have hle : pre.length ≤ 20 := by omega
    have hb1 : a.natAbs ≤ 1048576 := by have := pow_le hle; omega
    have hb2 := hp.small hle
    refine wpAny_mono (turn a ta pre _ t h tk own (by omega) (by omega) hb1 (by rw [Int.toNat_natCast]; exact hb2) (by rw [Int.toNat_natCast]; exact hP) F₁ N₁) (fun f s₂ q => ?_) fun _ _ x => x
    obtain ⟨rfl, a', ta', m', h', tk', news', rfl, F', N', h1, h2, h3, h4⟩ := q
    rw [Int.toNat_natCast] at h4
    exact kst_end (a', ta') F' N' (fun p hp => h1 p (List.mem_append_left _ hp)) (fun p hp => h1 p (List.mem_append_right _ hp)) rfl trivial (by intro p hp; rw [List.mem_singleton.mp hp]; exact h2) (fun z hz hz' _ => h3 z hz (hz' _ (List.mem_singleton.mpr rfl)))
      ⟨by rw [aboveF_snoc, ← hP]; exact h4, by rw [h4, List.length_append]; exact above_small hp hB⟩
  · rintro ⟨a, ta⟩ u h tk _ ⟨hP, hB⟩ F₁ N₁
    rw [rangeKs_length] at hB
    have hb1 : a.natAbs ≤ 1048576 := by have := pow_le (show n ≤ 20 by omega); omega
    exact done a ta u h tk hP hb1 F₁ N₁
theorem told_loop (hh : A.handled = none) (hr : IsRange s.heap r 0 b₀ 1 t₁ u₁ v₁) (hb : b₀ = (ss.length : Nat)) (h5 : ss.length ≤ 20) (F : Fr h₀ env.locals s.heap m₀) (N : News h₀ env.locals s.heap ((D, listOf us₀.toArray k₀) :: rest)) (hoff : ∀ p ∈ rest, p.1 ≠ D) (hI : IntsAre us₀ []) (_hss : StrsAre vs ss)
    (turn : ∀ (us : List Value) (told : List Int) (n' : Nat) (pre : List Int) (k : Int) (t : Tok) (u : Str → Option Value) (h : Heap) (tk : Nat) (own : Led), 0 ≤ k → k < ss.length → k < 20 → (∀ p ∈ rest ++ own, p.1 ≠ D) → IntsAre us told → (told.length : Int) = k → Pow told →
      Fr h₀ env.locals h (fun y => if y = Str.ofString "place" then some (.int k t) else if toldN.contains y then u y else m₀ y) → News h₀ env.locals h ((D, listOf us.toArray n') :: (rest ++ own)) →
      wpAny (model prog w) A (execs body env) (ToldTE h₀ env.locals (Str.ofString "place") toldN m₀ D (rest ++ own) (toldS (LL ss) told k) s) E { s with heap := h, toks := tk })
    (done : ∀ (us : List Value) (n' : Nat) (u : Str → Option Value) (h : Heap) (tk : Nat), IntsAre us (toldL (LL ss)) →
      Fr h₀ env.locals h (fun y => if y = Str.ofString "place" then u y else if toldN.contains y then u y else m₀ y) → News h₀ env.locals h ((D, listOf us.toArray n') :: rest) → Q .next { s with heap := h, toks := tk }) :
    wpAny (model prog w) A (pyIter (.ref r)) (fun it s₂ => LoopAtV prog w A h₀ env (Str.ofString "place") body Q E it s₂) E s := by
  subst hb
  refine kst_range (σ := List Value × List Int × Nat) (n := ss.length) (fun c => (D, listOf c.1.toArray c.2.2) :: rest) (fun _ => []) (fun c => IntsAre c.1 c.2.1 ∧ Pow c.2.1) toldN (fun pre c => c.2.1 = toldF (LL ss) pre ∧ c.2.1.length = pre.length) (us₀, [], k₀) hh hr (small_one (by decide) (by decide) (by omega) (by omega)) (by rw [rangeSize_nat]; omega) F N ⟨hI, fun j => by simp⟩ (fun _ hp => nomatch hp) ⟨rfl, rfl⟩ ?_ ?_
  · rintro ⟨us, told, n'⟩ pre k t u h tk own hk hlt ho ⟨hI, hp⟩ ⟨hP, hL⟩ F₁ N₁
    have ek : k = (pre.length : Nat) := by omega
    subst ek
    have hL' : told.length = pre.length := hL
    have ho' : ∀ p ∈ rest ++ own, p.1 ≠ D := fun p hp => (List.mem_append.mp hp).elim (hoff p) fun q => ho p q D (.head _)
    refine wpAny_mono (turn us told n' pre _ t u h tk own (by omega) (by omega) (by omega) ho' hI (by omega) hp F₁ N₁) (fun f s₂ q => ?_) fun _ _ x => x
    obtain ⟨rfl, us', n'', m', h', tk', news', rfl, F', N', h1, h2, h3, h4⟩ := q
    exact kst_end (us', toldS (LL ss) told (pre.length : Nat), n'') F' N' (fun p hp => by
      rcases List.mem_cons.mp hp with rfl | hp
      · exact h1
      · exact h2 p (List.mem_append_left _ hp)) (fun p hp => h2 p (List.mem_append_right _ hp)) rfl ⟨h3, told_step hp hL'⟩ (fun _ hp => nomatch hp) (fun z hz _ hz' => h4 z hz hz') ⟨by rw [toldF_snoc, ← hP], by simp [toldS, hL']⟩
  · rintro ⟨us, told, n'⟩ u h tk ⟨hI, _⟩ ⟨hP, _⟩ F₁ N₁
    refine done us n' u h tk ?_ F₁ N₁
    have hP' : told = toldF (LL ss) (rangeKs 0 ss.length) := hP
    unfold toldL
    rw [List.length_map, ← hP']
    exact hI
theorem item_mail {value slice : Expr} {k : Int} {u : Tok} {Q : Value → Shared → Prop} (hM : ∀ x ∈ ss, Dotless x.cps.toList ∧ x.length ≤ 60) (hl : s.heap.IsList l vs.toArray) (hi : StrsAre vs ss) (h0 : 0 ≤ k) (hk : k < (ss.length : Nat)) (hfit : k < 1000)
    (h : ∀ t, Dotless (ss.getD k.toNat Str.empty).cps.toList → (ss.getD k.toNat Str.empty).length ≤ 60 → Q (.str (ss.getD k.toNat Str.empty) t) s)
    (hs : subscripted slice false (.ref l) (.int k u) = operate [.ref l, .int k u] (getItem (.ref l) (.int k u)) := by with_unfolding_all rfl) (hg : ∀ r, letTemporaryGo value (.ref l) r = pure () := by intro _; with_unfolding_all rfl) :
    wpAny (model prog w) A (subscriptTail value slice (.ref l) (.int k u)) Q E s := by
  have hlt : k.toNat < ss.length := by omega
  have hm : ss.getD k.toNat Str.empty ∈ ss := by simp [List.getD, hlt]
  exact item_strsA hl hi h0 hk (by omega) (fun t => h t (hM _ hm).1 (hM _ hm).2) hs hg
theorem item_told {value slice : Expr} {k : Int} {u : Tok} {Q : Value → Shared → Prop} {news : Led} {n : Nat} (N : News h₀ env.locals s.heap news) (hm : (D, listOf us.toArray n) ∈ news) (hi : IntsAre us told) (h0 : 0 ≤ k) (hk : k < (told.length : Int)) (hfit : k < 1000)
    (h : ∀ t, Q (.int (told.getD k.toNat 0) t) s)
    (hs : subscripted slice false (.ref D) (.int k u) = operate [.ref D, .int k u] (getItem (.ref D) (.int k u)) := by with_unfolding_all rfl) :
    wpAny (model prog w) A (subscriptTail value slice (.ref D) (.int k u)) Q E s :=
  item_list_intsT ⟨_, (N _ hm).1, rfl, n, rfl⟩ hi h0 hk (by omega) h hs
end
section
variable {x y : Int} {tx ty : Tok}
theorem add_use (hx : x.natAbs ≤ 1048576) (hy : y.natAbs ≤ 1048576) {dp un : Nat} {gd : Option (List Code)} {cn : Str} {cs : Scope} {a : Addr} {ccd : Value} {cl : List (Str × Addr)} {outer : List Env} {A₀ : Around} {base h₀ : Heap} {L : Addr} {m : Str → Option Value} {news : Led} {s : Shared} {Q E : Value → Shared → Prop}
    (B : Below A₀ base outer h₀) (F : Fr h₀ L s.heap m) (X : (hd.heap_39 w.params).In h₀) (N : News h₀ L s.heap news) (T : Top p loose mean mg mb h₀) (hk : cs.kind = .function) (hd : dp + 12 < recursionLimit) (hu : un + 96 < cLine)
    (ret : ∀ t h' tk', Fr h₀ L h' m → News h₀ L h' news → Q (.int (x + y) t) { s with heap := h', toks := tk' }) :
    wpAny (model PySem.Challenge.rw_sw0005_01.row.prog w) (ktrTop dp un gd cn cs L a ccd cl outer) (call (.ref 45) [.int x tx, .int y ty]) Q E s := by
  refine (con_add x y tx ty (by omega) (by omega)).use B F X N T hk hd hu trivial fun r new h' tk' F' N' _ hp => ?_
  obtain ⟨⟨t, rfl⟩, rfl⟩ := hp
  exact ret t h' tk' F' N'
theorem neg_use (hx : x.natAbs ≤ 1048576) {dp un : Nat} {gd : Option (List Code)} {cn : Str} {cs : Scope} {a : Addr} {ccd : Value} {cl : List (Str × Addr)} {outer : List Env} {A₀ : Around} {base h₀ : Heap} {L : Addr} {m : Str → Option Value} {news : Led} {s : Shared} {Q E : Value → Shared → Prop}
    (B : Below A₀ base outer h₀) (F : Fr h₀ L s.heap m) (X : (hd.heap_39 w.params).In h₀) (N : News h₀ L s.heap news) (T : Top p loose mean mg mb h₀) (hk : cs.kind = .function) (hd : dp + 12 < recursionLimit) (hu : un + 96 < cLine)
    (ret : ∀ t h' tk', Fr h₀ L h' m → News h₀ L h' news → Q (.int (-x) t) { s with heap := h', toks := tk' }) :
    wpAny (model PySem.Challenge.rw_sw0005_01.row.prog w) (ktrTop dp un gd cn cs L a ccd cl outer) (call (.ref 52) [.int x tx]) Q E s := by
  refine (con_neg x tx (by omega)).use B F X N T hk hd hu trivial fun r new h' tk' F' N' _ hp => ?_
  obtain ⟨⟨t, rfl⟩, rfl⟩ := hp
  exact ret t h' tk' F' N'
end
theorem want_of {x w₁ f₃ xb front b₃ back : Str} (e1 : w₁.cps.toList = f₃.cps.toList ++ xb.cps.toList) (e2 : f₃.cps.toList = front.cps.toList ++ (Str.ofString "...").cps.toList) (e3 : front.cps.toList = x.cps.toList ++ (Str.ofString "-").cps.toList)
    (e4 : xb.cps.toList = x.cps.toList ++ b₃.cps.toList) (e5 : b₃.cps.toList = (Str.ofString "...").cps.toList ++ back.cps.toList) (e6 : back.cps.toList = (Str.ofString "-").cps.toList ++ x.cps.toList) : w₁.cps.toList = wantL x.cps.toList := by
  have h1 : (Str.ofString "-").cps.toList = [45] := by decide +kernel
  have h2 : (Str.ofString "...").cps.toList = [46, 46, 46] := by decide +kernel
  rw [e1, e2, e3, e4, e5, e6, h1, h2]
  simp [wantL]
theorem got_of {x v g fb front back : Str} (e1 : g.cps.toList = fb.cps.toList ++ back.cps.toList) (e2 : fb.cps.toList = front.cps.toList ++ v.cps.toList) (e3 : front.cps.toList = x.cps.toList ++ (Str.ofString "-").cps.toList)
    (e6 : back.cps.toList = (Str.ofString "-").cps.toList ++ x.cps.toList) : g.cps.toList = gotL x.cps.toList v.cps.toList := by
  have h1 : (Str.ofString "-").cps.toList = [45] := by decide +kernel
  rw [e1, e2, e3, e6, h1]
  simp [gotL]
theorem app_told {prog : Program} {A : Around} {E : Value → Shared → Prop} {s : Shared} {h₀ : Heap} {L D : Addr} {m : Str → Option Value} {tail : Led} {us : List Value} {told : List Int} {n : Nat} {y : Int} {t : Tok} {Q : Value → Shared → Prop}
    (F : Fr h₀ L s.heap m) (N : News h₀ L s.heap ((D, listOf us.toArray n) :: tail)) (ho : ∀ p ∈ tail, p.1 ≠ D) (hI : IntsAre us told) (hz : told.length ≤ 1000)
    (h : ∀ h' us', Fr h₀ L h' m → News h₀ L h' ((D, listOf us'.toArray (n + 1)) :: tail) → IntsAre us' (told ++ [y]) → Q .none { s with heap := h' }) : wpAny (model prog w) A (call (.builtin "list.append") [.ref D, .int y t]) Q E s :=
  append_head F N ho (by rw [hI.length]; exact hz) fun h' F' N' => h h' _ F' N' (hI.append (.cons _ _ .nil))
theorem not_in' {names : List Str} {z : Str} (h : names.contains z = false) (y : Str) (hy : names.contains y = true) : z ≠ y := by rintro rfl; rw [h] at hy; exact absurd hy (by decide)
theorem not_tr' {b : Bool} (h : b = false) : ¬ b = true := by rw [h]; decide
theorem getD_LL (ss : List Str) (j : Nat) : (LL ss).getD j [] = (ss.getD j Str.empty).cps.toList := by
  simp only [LL, List.getD, List.getElem?_map]
  cases ss[j]? <;> rfl
theorem above_yes {ss : List Str} {told : List Int} {m : List Nat} {a k : Int} (h : told.getD k.toNat 0 ≠ 0) (h' : (inB m (ss.getD k.toNat Str.empty).cps.toList == true) = true) : a + told.getD k.toNat 0 = aboveS (LL ss) told m a k := by
  unfold aboveS
  rw [getD_LL, if_pos ⟨h, by simpa using h'⟩]
theorem above_no {ss : List Str} {told : List Int} {m : List Nat} {a k : Int} (h' : (inB m (ss.getD k.toNat Str.empty).cps.toList == true) = false) : a = aboveS (LL ss) told m a k := by
  unfold aboveS
  rw [getD_LL, if_neg]
  rintro ⟨_, h⟩
  rw [h] at h'
  exact absurd h' (by decide)
theorem above_nought {ss : List Str} {told : List Int} {m : List Nat} {a k : Int} (h : told.getD k.toNat 0 = 0) : a = aboveS (LL ss) told m a k := by
  unfold aboveS
  rw [if_neg fun h' => h'.1 h]
theorem told_yes {ss : List Str} {told : List Int} {us : List Value} {a k : Int} (h : IntsAre us (told ++ [-a])) (hk : 0 < k) (ha : a = aboveF (LL ss) told (ss.getD k.toNat Str.empty).cps.toList (rangeKs 0 k.toNat)) : IntsAre us (toldS (LL ss) told k) := by
  unfold toldS
  rw [if_pos hk, getD_LL, ← ha]
  exact h
theorem told_first {ss : List Str} {told : List Int} {us : List Value} {k : Int} (h : IntsAre us (told ++ [1])) (hk : ¬ 0 < k) : IntsAre us (toldS (LL ss) told k) := by
  unfold toldS
  rw [if_neg hk]
  exact h

local macro_rules | `(tactic| walk_at "nm_side") => `(tactic| repeat (first | with_reducible rfl | (refine Eq.trans (if_neg ?hc9) ?_; (case hc9 => first | assumption | exact not_tr' (by assumption) | exact not_in' (by assumption) _ (by decide +kernel)))))
local macro_rules | `(tactic| walk_at "newList") => `(tactic| (k_here; k_dflt (refine' newList_K ?k1 ?k2 ?_ ?k3; (case k1 => k_asm); (case k2 => k_asm); (case k3 => (simp only [List.length_cons, List.length_nil]; omega)); k_whole); intro l' h' F' N' l1; (try k_lt l1)))
local macro_rules | `(tactic| walk_at "execs cons") => `(tactic| (k_here; with_reducible refine PySem.wpAny_execs_cons ?_))
local macro_rules | `(tactic| walk_at "subscriptTail Name Name ref int") => `(tactic| (k_here; (with_reducible show wpAny _ _ (subscriptTail _ _ (Value.ref _) (Value.int _ _)) _ _ _); k_dflt (first
  | (refine' item_told ?k1 ?k2 ?k3 ?k4 ?k5 ?k6 ?_; (case k1 => k_asm); (case k2 => k_mem); (case k3 => assumption); (case k4 => omega); (case k5 => omega); (case k6 => omega); k_whole; intro t')
  | (refine' item_mail ?k1 ?k2 ?k3 ?k4 ?k5 ?k6 ?_; (case k1 => assumption); (case k2 => exact stays_list (Fr.keep (by assumption)) (by assumption)); (case k3 => assumption); (case k4 => omega); (case k5 => omega); (case k6 => omega); k_whole; intro t' hD' lD'))))
local macro_rules | `(tactic| walk_at "pyIter ref") => `(tactic| (k_here; k_dflt (refine' told_loop ?k1 ?k2 ?kb ?k0 ?k3 ?k4 ?k5 ?k6 ?k7 ?_ ?_; (case k1 => exact rfl); (case k2 => assumption); (case kb => (first | exact rfl | (have hl' := StrsAre.len_eq (by assumption); (try simp only [List.size_toArray]); omega))); (case k0 => assumption); (case k3 => k_asm); (case k4 => k_asm); (case k5 => exact fun _ h' => nomatch h'); (case k6 => exact .nil); (case k7 => assumption); k_whole); (all_goals (first | intro us' told' n' pre' k' t' u' h' tk' own' l1' l2' l3' ho' hI' e1' e2' F' N' | intro us' n' u' h' tk' hI' F' N'))))
local macro_rules | `(tactic| walk_at "pyIter ref") => `(tactic| (k_here; k_dflt (refine' above_loop ?k1 ?k2 ?ka ?kb ?k3 ?k4 ?k5 ?k6 ?k7 ?k8 ?k9 ?k10 ?_ ?_; (case k1 => exact rfl); (case k2 => assumption); (case ka => assumption); (case kb => assumption); (case k3 => k_asm); (case k4 => k_asm); (case k5 => assumption); (case k6 => assumption); (case k7 => assumption); (case k8 => exact rfl); (case k9 => exact rfl); (case k10 => assumption); k_whole); (all_goals (first | intro a' ta' pre' k' t' h' tk' own' l1' l2' l3' l4' e1' F' N' | intro a' ta' u' h' tk' e1' l3' F' N'))))
local macro_rules | `(tactic| walk_at "call builtin:list.append") => `(tactic| (k_here; k_dflt (refine' app_told ?k1 ?k2 ?k3 ?k4 ?k5 ?_; (case k1 => k_asm); (case k2 => k_asm); (case k3 => assumption); (case k4 => assumption); (case k5 => omega); k_whole; intro h' us' F' N' hI')))
local macro_rules | `(tactic| walk_at "call type:range") => `(tactic| (k_here; (with_reducible show wpAny _ _ (call _ [_]) _ _ _); ((rename Fr _ _ _ _ => F'); (rename News _ _ _ _ => N'); (with_unfolding_all refine range1_rows F' N' ?_); intro _ _ _ _ _ _ _ _ _)))
local macro_rules | `(tactic| walk_at "call ref") => `(tactic| (k_here; k_dflt (refine' concat_use ?x1 ?k1 ?k2 ?k3 ?k4 ?k5 ?k6 ?k7 ?k8 ?_; (case x1 => first | omega | decide); (case k1 => k_asm); (case k2 => k_asm); (case k3 => k_asm); (case k4 => k_asm); (case k5 => k_asm); (case k6 => exact rfl); (case k7 => (dsimp only [ktrTop, Around.deeper]; omega)); (case k8 => (dsimp only [ktrTop, Around.deeper]; omega)); k_whole; intro z' t' h' tk' ez' lz' F' N')))
local macro_rules | `(tactic| walk_at "call ref") => `(tactic| (k_here; k_dflt (refine' add_use ?x1 ?x3 ?k1 ?k2 ?k3 ?k4 ?k5 ?k6 ?k7 ?k8 ?_; (case x1 => assumption); (case x3 => assumption); (case k1 => k_asm); (case k2 => k_asm); (case k3 => k_asm); (case k4 => k_asm); (case k5 => k_asm); (case k6 => exact rfl); (case k7 => (dsimp only [ktrTop, Around.deeper]; omega)); (case k8 => (dsimp only [ktrTop, Around.deeper]; omega)); k_whole; intro t' h' tk' F' N')))
local macro_rules | `(tactic| walk_at "call ref") => `(tactic| (k_here; k_dflt (refine' neg_use ?x1 ?k1 ?k2 ?k3 ?k4 ?k5 ?k6 ?k7 ?k8 ?_; (case x1 => assumption); (case k1 => k_asm); (case k2 => k_asm); (case k3 => k_asm); (case k4 => k_asm); (case k5 => k_asm); (case k6 => exact rfl); (case k7 => (dsimp only [ktrTop, Around.deeper]; omega)); (case k8 => (dsimp only [ktrTop, Around.deeper]; omega)); k_whole; intro t' h' tk' F' N')))
local macro_rules | `(tactic| walk_at "call ref") => `(tactic| (k_here; k_dflt (refine' em_use ?x5 ?x1 ?x2 ?x3 ?x4 ?k1 ?k2 ?k3 ?k4 ?k5 ?k6 ?k7 ?k8 ?_; (case x1 => exact want_of (by assumption) (by assumption) (by assumption) (by assumption) (by assumption) (by assumption)); (case x2 => exact got_of (by assumption) (by assumption) (by assumption) (by assumption)); (case x3 => omega); (case x4 => omega); (case x5 => assumption); (case k1 => k_asm); (case k2 => k_asm); (case k3 => k_asm); (case k4 => k_asm); (case k5 => k_asm); (case k6 => exact rfl); (case k7 => (dsimp only [ktrTop, Around.deeper]; omega)); (case k8 => (dsimp only [ktrTop, Around.deeper]; omega)); k_whole; intro h' tk' F' N')))

set_option pp.deepTerms false
set_option pp.maxSteps 8000
set_option maxHeartbeats 4000000
theorem con_told (l : Addr) (vs : List Value) (ss : List Str) (hI : StrsAre vs ss) (h5 : ss.length ≤ 20) (hM : ∀ x ∈ ss, Dotless x.cps.toList ∧ x.length ≤ 60) :
    Con w p loose mean mg mb 97 30 (fun h => h.IsList l vs.toArray) [.ref l]
      (fun v new => ∃ D us k, v = .ref D ∧ new = [(D, listOf us.toArray k)] ∧ IntsAre us (toldL (LL ss))) := by
  have hsz := sizeLine_eq
  have hc1 : (Str.ofString "-").length = 1 := by decide +kernel
  have hc3 : (Str.ofString "...").length = 3 := by decide +kernel
  intro dp un gd cn cs a ccd cl outer A₀ base h₀ L m news s Q E B F X N T hk hd hu hp hret
  dsimp only [PG, KK] at *
  k_dflt (refine' enter0 B F X N T (A := ktrTop dp un gd cn cs L a ccd cl outer) (env := envX cn cs L a ccd cl) (binds := [(Str.ofString "mails", .ref l)]) rfl rfl hk ?k6 ?k7 ?k8 ?k9 ?kB hret ?c2 ?c3 ?c4 ?c5 ?_)
  (case k6 => k_is); (case k7 => k_is); (case k8 => exact Nat.lt_of_le_of_lt (Nat.le_add_right _ _) hd); (case k9 => exact BindsTo.of_eq rfl); (case c5 => decide); (case kB => exact locs rfl); (case c2 => exact rfl); (case c3 => exact rfl); (case c4 => exact rfl); k_whole
  clear B F X N T hret
  intro g L' h' tk' hg F' N' B' X' T'; (try dsimp only); (try k_fold)
  subst hg
  k_steps
  all_goals first
    | exact ⟨rfl, _, _, _, _, _, _, rfl, by assumption, by assumption, (fun p hp => hp), rfl, (by intro z h1 h2; walk_at "nm_side"), above_yes (by assumption) (by assumption)⟩
    | exact ⟨rfl, _, _, _, _, _, _, rfl, by assumption, by assumption, (fun p hp => hp), rfl, (by intro z h1 h2; walk_at "nm_side"), above_no (by assumption)⟩
    | exact ⟨rfl, _, _, _, _, _, _, rfl, by assumption, by assumption, (fun p hp => hp), rfl, (by intro z h1 h2; walk_at "nm_side"), above_nought (by first | assumption | omega)⟩
    | exact ⟨rfl, _, _, _, _, _, _, rfl, by assumption, by assumption, .head _, (fun p hp => .tail _ hp), told_yes (by assumption) (by first | assumption | omega) (by assumption), (by intro z h1 h2; walk_at "nm_side")⟩
    | exact ⟨rfl, _, _, _, _, _, _, rfl, by assumption, by assumption, .head _, (fun p hp => .tail _ hp), told_first (by assumption) (by first | assumption | omega), (by intro z h1 h2; walk_at "nm_side")⟩
    | exact End.intro (by assumption) (news_one (by assumption)) ⟨_, _, _, rfl, rfl, by assumption⟩
end Mine
end
section
open PySem PySem.W PySem.Calls PyProof.Rows PySem.Spec
set_option maxRecDepth 100000
namespace Mine
variable {w : World}

/-- ys stands to xs, place by place, as R says -/
def Rel2 {α : Type} (R : α → Value → Prop) : List α → List Value → Prop
  | [], [] => True
  | x :: xs, y :: ys => R x y ∧ Rel2 R xs ys
  | _, _ => False
theorem Rel2.snoc {α : Type} {R : α → Value → Prop} {x : α} {y : Value} (h : R x y) : ∀ {xs : List α} {ys : List Value}, Rel2 R xs ys → Rel2 R (xs ++ [x]) (ys ++ [y])
  | [], [], _ => ⟨h, trivial⟩
  | _ :: _, _ :: _, ⟨a, b⟩ => ⟨a, Rel2.snoc h b⟩
theorem Rel2.length {α : Type} {R : α → Value → Prop} : ∀ {xs : List α} {ys : List Value}, Rel2 R xs ys → ys.length = xs.length
  | [], [], _ => rfl
  | _ :: _, _ :: _, ⟨_, b⟩ => by rw [List.length_cons, List.length_cons, Rel2.length b]
def ElW {α : Type} (news : Led) (R : α → Value → Prop) (x : α) (y : Value) (news' : Led) : Prop := news' = news ∧ R x y

section
variable {prog : Program} {A : Around} {E : Value → Shared → Prop} {s : Shared} {h₀ : Heap} {L : Addr} {m : Str → Option Value} {env : Env} {elt : Expr} {x : Str} {scope : Scope} {cl : List (Str × Addr)} {S : Led → Prop} {P : Nat → Value → Prop} {Fin : List Value → Led → Prop} {news : Led}
theorem comp_rest {α : Type} {n : Nat} {xs : List α} (val : α → Tok → Value) (R : α → Value → Prop) (hn : xs.length = n) (hP : ∀ i v, i < n → P i v → ∃ a t, xs[i]? = some a ∧ v = val a t)
    (turn : ∀ a t I oI C oC D m₂ ys h tk (E' : Value → Shared → Prop), a ∈ xs → LCg.NsObj oC m₂ → m₂ x = some (val a t) → Fr h₀ L h m → News h₀ L h ((I, oI) :: (C, oC) :: (D, LCg.lst ys) :: news) → LCg.Off3 I C D news → ((@Ne Nat I C) ∧ (@Ne Nat I D) ∧ (@Ne Nat C D)) →
      wpAny (model prog w) A (eval elt (compEnvC scope cl C env)) (LCg.CompEnd h₀ L m { s with heap := h, toks := tk } I oI C oC D (LCg.lst ys) S (fun y news' => ElW news R a y news')) E' { s with heap := h, toks := tk })
    (fin : ∀ ys, Rel2 R xs ys → Fin ys news) : LCg.CompRest prog w A h₀ L m env elt x scope cl s S P Fin n 0 [] news := by
  have key : ∀ (j i : Nat) (ys : List Value), i + j = n → Rel2 R (xs.take i) ys → LCg.CompRest prog w A h₀ L m env elt x scope cl s S P Fin j i ys news := by
    intro j
    induction j with
    | zero =>
      intro i ys hi hy
      rw [List.take_of_length_le (by omega)] at hy
      exact LCg.CompRest.zero (fin ys hy)
    | succ j ih =>
      intro i ys hi hy
      refine LCg.CompRest.succ ?_
      intro v I oI C oC D m₂ h tk E' hv hC hx F N off ne
      obtain ⟨a, t, ha, rfl⟩ := hP i v (by omega) hv
      refine wpAny_mono (turn a t I oI C oC D m₂ ys h tk E' (List.mem_of_getElem? ha) hC hx F N off ne) (fun y s₂ hq => ?_) fun _ _ e => e
      obtain ⟨h', tk', nw, e, F', N', off', hS, hn', hr⟩ := hq
      subst hn'
      refine ⟨h', tk', nw, e, F', N', off', hS, ih (i + 1) _ (by omega) ?_⟩
      rw [List.take_add_one, ha]
      exact Rel2.snoc hr hy
  exact key n 0 [] (by omega) (by rw [List.take_zero]; trivial)
theorem comp_words {vs : List Value} {ss : List Str} (R : Str → Value → Prop) (hi : StrsAre vs ss)
    (turn : ∀ a t I oI C oC D m₂ ys h tk (E' : Value → Shared → Prop), a ∈ ss → LCg.NsObj oC m₂ → m₂ x = some (.str a t) → Fr h₀ L h m → News h₀ L h ((I, oI) :: (C, oC) :: (D, LCg.lst ys) :: news) → LCg.Off3 I C D news → ((@Ne Nat I C) ∧ (@Ne Nat I D) ∧ (@Ne Nat C D)) →
      wpAny (model prog w) A (eval elt (compEnvC scope cl C env)) (LCg.CompEnd h₀ L m { s with heap := h, toks := tk } I oI C oC D (LCg.lst ys) S (fun y news' => ElW news R a y news')) E' { s with heap := h, toks := tk })
    (fin : ∀ ys, Rel2 R ss ys → Fin ys news) : LCg.CompRest prog w A h₀ L m env elt x scope cl s S (fun i v => vs.toArray[i]? = some v) Fin vs.toArray.size 0 [] news :=
  comp_rest (fun a t => .str a t) R (by rw [List.size_toArray]; exact hi.len_eq.symm) (fun i v hl hv => by
    rw [List.size_toArray, hi.len_eq] at hl
    have hs : ss[i]? = some ss[i] := List.getElem?_eq_getElem hl
    obtain ⟨t, ht⟩ := hi.at hs
    refine ⟨_, t, hs, ?_⟩
    have hv' : vs[i]? = some v := by simpa using hv
    rw [hv'] at ht
    exact Option.some.inj ht) turn fin
theorem comp_letters {T : Str} (R : Nat → Value → Prop)
    (turn : ∀ a t I oI C oC D m₂ ys h tk (E' : Value → Shared → Prop), a ∈ T.cps.toList → LCg.NsObj oC m₂ → m₂ x = some (.str ⟨#[a]⟩ t) → Fr h₀ L h m → News h₀ L h ((I, oI) :: (C, oC) :: (D, LCg.lst ys) :: news) → LCg.Off3 I C D news → ((@Ne Nat I C) ∧ (@Ne Nat I D) ∧ (@Ne Nat C D)) →
      wpAny (model prog w) A (eval elt (compEnvC scope cl C env)) (LCg.CompEnd h₀ L m { s with heap := h, toks := tk } I oI C oC D (LCg.lst ys) S (fun y news' => ElW news R a y news')) E' { s with heap := h, toks := tk })
    (fin : ∀ ys, Rel2 R T.cps.toList ys → Fin ys news) : LCg.CompRest prog w A h₀ L m env elt x scope cl s S (SignAt T) Fin T.cps.size 0 [] news :=
  comp_rest (fun a t => .str ⟨#[a]⟩ t) R rfl (fun i v _ hv => by
    obtain ⟨c, u, hc, rfl⟩ := hv
    exact ⟨c, u, by simpa using hc, rfl⟩) turn fin

/-- the source of a list of a text's letters -/
def TextSrc (prog : Program) (w : World) (A : Around) (h₀ : Heap) (L : Addr) (m : Str → Option Value) (env : Env) (elt : Expr) (x : Str) (scope : Scope) (cl : List (Str × Addr)) (Fin : Shared → List Value → Led → Prop) (xv : Value) (s₁ : Shared) : Prop :=
  ∃ T t news, xv = .str T t ∧ A.handled = none ∧ Fr h₀ L s₁.heap m ∧ News h₀ L s₁.heap news ∧ T.cps.all (· < 128) = true ∧ T.cps.size ≤ sizeLine ∧
    ∀ s₂ : Shared, (∃ h, s₂ = { s₁ with heap := h }) → LCg.CompRest prog w A h₀ L m env elt x scope cl s₂ (fun _ => True) (SignAt T) (Fin s₂) T.cps.size 0 [] news
theorem TextSrc.intro {Fin : Shared → List Value → Led → Prop} {T : Str} {t : Tok} (hh : A.handled = none) (F : Fr h₀ L s.heap m) (N : News h₀ L s.heap news) (ha : T.cps.all (· < 128) = true) (hsz : T.cps.size ≤ sizeLine)
    (h : ∀ g, LCg.CompRest prog w A h₀ L m env elt x scope cl { s with heap := g } (fun _ => True) (SignAt T) (Fin { s with heap := g }) T.cps.size 0 [] news) : TextSrc prog w A h₀ L m env elt x scope cl Fin (.str T t) s :=
  ⟨T, t, news, rfl, hh, F, N, ha, hsz, fun _ ⟨g, e⟩ => e ▸ h g⟩
theorem comp_text {iter : Expr} {px : Pos} {pos : Pos} {Q : Value → Shared → Prop} (F₀ : Fr h₀ L s.heap m)
    (hclos : closureFor scope env = pure cl) (hcell : ∀ y ∈ scope.names, y.2 ≠ .cell) (hkind : scope.kind = .function)
    (hnames : ∀ y ∈ scope.names, y.2 = .local → scope.names.lookup y.1 = some .local) (hx : scope.names.lookup x = some .local)
    (h : wpAny (model prog w) A (eval iter env) (TextSrc prog w A h₀ L m env elt x scope cl (fun s₂ => LCg.FinE h₀ L m s₂ Q)) E s)
    (hs : ∀ x, foldedSetIterable iter env x = pure x := by intro _; rfl) :
    wpAny (model prog w) A (eval (.ListComp elt [⟨.Name x px, iter, [], 0⟩] scope pos) env) Q E s := by
  rw [eval_ListComp]
  refine wpAny_comprehension_free (use := none) rfl hs hclos hkind hnames (wpAny_mono h (fun xv s₁ h₁ => ?_) fun _ _ e => e)
  obtain ⟨T, t, news, rfl, hh, F, N, ha, hsz, R⟩ := h₁
  have up : ∀ o b ob, s₁.heap.get? b = some ob → (s₁.heap.push o).get? b = some ob := fun o b ob e => Heap.get?_push_of_some _ e
  refine wpAny_pyIter_ascii ha ?_
  refine LCg.block_U (Walks.strAscii hh s₁.heap.objs.size T t) hsz (fun i h st => let ⟨o, ho, _⟩ := st; ⟨o, ho⟩) (fun i h h' o nw st e e' _ _ _ => ?_) hcell hkind hx ⟨_, Heap.get?_push_size _ rfl, rfl, rfl⟩ (fun b hb => ?_)
    (F.keeps (up _)) (N.grown (up _)) (Nat.ne_of_lt F.ns.lt) (next_is_new F) (fun p hp => Nat.ne_of_lt (Heap.lt_size (N p hp).1)) trivial (R _ ⟨_, rfl⟩) ?_
  · obtain ⟨o', ho, r⟩ := st
    rw [e] at ho
    cases ho
    exact ⟨o, e', r⟩
  · rw [List.mem_singleton.mp hb]
    show s₁.heap.objs.size < (s₁.heap.push _).objs.size
    rw [Heap.size_push]; exact Nat.lt_succ_self _
  · intro D C h tk m' ys news' F' N' o1 hn hC₀ hD₀ hCL hDL hCD offC fin
    refine ⟨m', hn, fun h'' hs'' => fin D h'' tk (F'.change hs'' hCL hC₀) (fun p hp => ?_) o1⟩
    refine ⟨hs''.extBut _ _ ?_ (N' p hp).1, (N' p hp).2⟩
    rcases List.mem_cons.mp hp with rfl | hp
    · exact Ne.symm hCD
    · exact offC p hp
end

/-- what one letter is sent as -/
def LetR (c : Nat) (y : Value) : Prop := ∃ z t, y = .str z t ∧ z.cps.toList = encL c
/-- what one word is sent as -/
def MailR (u : Str) (y : Value) : Prop := ∃ z t, y = .str z t ∧ z.cps.toList = mailL u.cps.toList
def DueR (W : List Nat) (u : Str) (y : Value) : Prop := ∃ t, y = .int (dueL 6 u.cps.toList W) t
theorem let_strs : ∀ {cs : List Nat} {ys : List Value}, Rel2 LetR cs ys → ∃ ss, StrsAre ys ss ∧ ss.flatMap (·.cps.toList) = mailL cs
  | [], [], _ => ⟨[], .nil, rfl⟩
  | c :: cs, y :: ys, ⟨⟨z, t, e, hz⟩, h⟩ => by
    obtain ⟨ss, h1, h2⟩ := let_strs h
    subst e
    refine ⟨z :: ss, .cons z t h1, ?_⟩
    rw [List.flatMap_cons, h2, hz]
    rfl
theorem mail_strs : ∀ {us : List Str} {ys : List Value}, Rel2 MailR us ys → ∃ ss, StrsAre ys ss ∧ LL ss = (LL us).map mailL
  | [], [], _ => ⟨[], .nil, rfl⟩
  | c :: cs, y :: ys, ⟨⟨z, t, e, hz⟩, h⟩ => by
    obtain ⟨ss, h1, h2⟩ := mail_strs h
    subst e
    refine ⟨z :: ss, .cons z t h1, ?_⟩
    show z.cps.toList :: LL ss = _
    rw [h2, hz]
    rfl
theorem due_ints {W : List Nat} : ∀ {us : List Str} {ys : List Value}, Rel2 (DueR W) us ys → IntsAre ys ((LL us).map fun u => dueL 6 u W)
  | [], [], _ => .nil
  | c :: cs, y :: ys, ⟨⟨t, e⟩, h⟩ => by
    subst e
    exact .cons _ _ (due_ints h)
theorem join_lets {prog : Program} {A : Around} {E : Value → Shared → Prop} {s : Shared} {h₀ : Heap} {L D : Addr} {news : Led} {t : Tok} {sep : Str} {Q : Value → Shared → Prop} {cs : List Nat} {ys : List Value} {ep : Nat}
    (N : News h₀ L s.heap news) (hm : (D, listOf ys.toArray ep) ∈ news) (hR : Rel2 LetR cs ys) (hc : cs.length ≤ 5)
    (hsep : sep.cps = #[]) (h : ∀ (z : Str) t' k, z.cps.toList = mailL cs → Q (.str z t') { s with toks := k }) : wpAny (model prog w) A (call (.builtin "str.join") [.str sep t, .ref D]) Q E s := by
  obtain ⟨ss, h1, h2⟩ := let_strs hR
  have hsep' : sep.length = 0 := by show sep.cps.size = 0; rw [hsep]; rfl
  have hl : ∀ cs : List Nat, (mailL cs).length ≤ 5 * cs.length := by
    intro cs
    induction cs with
    | nil => simp [mailL]
    | cons c r ih =>
      have : mailL (c :: r) = encL c ++ mailL r := rfl
      rw [this, List.length_append, List.length_cons]
      have : (encL c).length ≤ 5 := by unfold encL; (repeat' split) <;> decide
      omega
  have hsum : ∀ ss : List Str, (ss.map (·.length)).sum = (ss.flatMap (·.cps.toList)).length := by
    intro ss
    induction ss with
    | nil => rfl
    | cons a r ih => rw [List.map_cons, List.sum_cons, ih, List.flatMap_cons, List.length_append]; rfl
  refine join_list (ys := ss) ⟨_, (N _ hm).1, rfl, ep, rfl⟩ (by simpa using h1) (by rw [hsep', hsum, h2]; have := hl cs; omega) fun t' k => ?_
  rw [join_empty sep hsep]
  exact h _ t' k (by show (List.flatMap _ ss).toArray.toList = _; rw [h2])
end Mine
end
section
open PySem PySem.W PySem.Calls PyProof.Rows PySem.Spec
set_option maxRecDepth 100000
namespace Mine
def stretchesL (W : List Nat) : List (List Nat) := (downKs 5 6).foldl (innerW W) []
def mailsL (W : List Nat) : List (List Nat) := (downKs 5 5).foldl (innerM W) [] ++ [[]]
def keyW (W : List Nat) : Bool := (toldL (stretchesL W) == (stretchesL W).map (fun u => dueL 6 u W)) && ((stretchesL W).headD [] == W) && decide (1 ≤ (stretchesL W).length) && decide ((stretchesL W).length ≤ 20)
abbrev Inj (σ : Nat → Nat) : Prop := ∀ a b, σ a = σ b → a = b

/-! the law says the same of a word in other letters -/
section
variable {σ : Nat → Nat} (hσ : Inj σ)
include hσ
theorem map_inj' : ∀ {u v : List Nat}, u.map σ = v.map σ → u = v
  | [], [], _ => rfl
  | a :: u, b :: v, h => by
    rw [List.map_cons, List.map_cons] at h
    injection h with h1 h2
    rw [hσ _ _ h1, map_inj' h2]
theorem beq_map (u v : List Nat) : (u.map σ == v.map σ) = (u == v) := by
  rw [Bool.eq_iff_iff, beq_iff_eq, beq_iff_eq]
  exact ⟨map_inj' hσ, fun h => by rw [h]⟩
theorem pre_map : ∀ u v : List Nat, (u.map σ).isPrefixOf (v.map σ) = u.isPrefixOf v
  | [], v => by simp [List.isPrefixOf]
  | a :: u, [] => rfl
  | a :: u, b :: v => by
    rw [List.map_cons, List.map_cons, List.isPrefixOf_cons_cons, List.isPrefixOf_cons_cons, pre_map u v]
    congr 1
    rw [Bool.eq_iff_iff, beq_iff_eq, beq_iff_eq]
    exact ⟨hσ _ _, fun h => by rw [h]⟩
theorem inB_map (u : List Nat) : ∀ v : List Nat, inB (u.map σ) (v.map σ) = inB u v
  | [] => by cases u <;> rfl
  | b :: v => by
    have h1 : inB (u.map σ) ((b :: v).map σ) = ((u.map σ).isPrefixOf ((b :: v).map σ) || inB (u.map σ) (v.map σ)) := rfl
    rw [h1, pre_map hσ, inB_map u v]
    rfl
theorem outer_map (w : List Nat) (pre : List Int) : outerF (w.map σ) pre = (outerF w pre).map σ := by
  unfold outerF
  have key : ∀ (pre : List Int) (o : List Nat), pre.foldl (fun o k => if (w.map σ).take k.toNat == (w.map σ).drop ((w.map σ).length - k.toNat) then (w.map σ).take k.toNat else o) (o.map σ) = (pre.foldl (fun o k => if w.take k.toNat == w.drop (w.length - k.toNat) then w.take k.toNat else o) o).map σ := by
    intro pre
    induction pre with
    | nil => intro o; rfl
    | cons k r ih =>
      intro o
      rw [List.foldl_cons, List.foldl_cons, ← ih]
      congr 1
      rw [List.length_map, ← List.map_take, ← List.map_drop, beq_map hσ]
      split <;> rfl
  exact key pre []
theorem due_map : ∀ (n : Nat) (u w : List Nat), dueL n (u.map σ) (w.map σ) = dueL n u w
  | 0, _, _ => rfl
  | n + 1, u, w => by
    unfold dueL
    have h1 : (w.map σ == List.replicate (w.map σ).length ((w.map σ).headD 0)) = (w == List.replicate w.length (w.headD 0)) := by
      cases w with
      | nil => rfl
      | cons a r =>
        show ((a :: r).map σ == List.replicate ((a :: r).map σ).length (σ a)) = _
        rw [List.length_map, ← List.map_replicate, beq_map hσ]
        rfl
    rw [h1, beq_map hσ, inB_map hσ, outer_map hσ, ← List.map_drop, List.length_map, List.length_map, ← List.map_take, beq_map hσ, inB_map hσ, due_map n]
end

/-! a list that takes each new item once -/
def stepG (h : Int → List Nat) (ws : List (List Nat)) (i : Int) : List (List Nat) := if ws.contains (h i) then ws else ws ++ [h i]
section
variable {g : List Nat → List Nat} {S : List Nat → Prop} (hg : ∀ u v, S u → S v → g u = g v → u = v)
include hg
theorem contains_map {ws : List (List Nat)} {u : List Nat} (hw : ∀ x ∈ ws, S x) (hu : S u) : (ws.map g).contains (g u) = ws.contains u := by
  rw [Bool.eq_iff_iff, List.contains_iff_mem, List.contains_iff_mem, List.mem_map]
  constructor
  · rintro ⟨x, hx, e⟩
    rwa [← hg _ _ (hw x hx) hu e]
  · exact fun h => ⟨u, h, rfl⟩
theorem foldG_map {h h' : Int → List Nat} (e : ∀ i, h' i = g (h i)) (hS : ∀ i, S (h i)) : ∀ (is : List Int) (ws : List (List Nat)), (∀ x ∈ ws, S x) →
    is.foldl (stepG h') (ws.map g) = (is.foldl (stepG h) ws).map g ∧ ∀ x ∈ is.foldl (stepG h) ws, S x
  | [], ws, hw => ⟨rfl, hw⟩
  | i :: r, ws, hw => by
    rw [List.foldl_cons, List.foldl_cons]
    have h1 : stepG h' (ws.map g) i = (stepG h ws i).map g := by
      unfold stepG
      rw [e, contains_map hg hw (hS i)]
      split
      · rfl
      · rw [List.map_append]; rfl
    have h2 : ∀ x ∈ stepG h ws i, S x := by
      unfold stepG
      split
      · exact hw
      · intro x hx
        rcases List.mem_append.mp hx with hx | hx
        · exact hw x hx
        · rw [List.mem_singleton.mp hx]; exact hS i
    rw [h1]
    exact foldG_map e hS r _ h2
end
theorem foldI_map {g : List Nat → List Nat} {S : List Nat → Prop} {F F' : List (List Nat) → Int → List (List Nat)} (h : ∀ ws sz, (∀ x ∈ ws, S x) → F' (ws.map g) sz = (F ws sz).map g ∧ ∀ x ∈ F ws sz, S x) :
    ∀ (is : List Int) (ws : List (List Nat)), (∀ x ∈ ws, S x) → is.foldl F' (ws.map g) = (is.foldl F ws).map g ∧ ∀ x ∈ is.foldl F ws, S x
  | [], ws, hw => ⟨rfl, hw⟩
  | i :: r, ws, hw => by
    rw [List.foldl_cons, List.foldl_cons, (h ws i hw).1]
    exact foldI_map h r _ (h ws i hw).2
theorem inner_map {g : List Nat → List Nat} {S : List Nat → Prop} (hg : ∀ u v, S u → S v → g u = g v → u = v) {W W' : List Nat} (e : ∀ i sz, cutL W' i sz = g (cutL W i sz)) (hS : ∀ i sz, S (cutL W i sz)) (ws : List (List Nat)) (sz : Int) (hw : ∀ x ∈ ws, S x) :
    innerW W' (ws.map g) sz = (innerW W ws sz).map g ∧ ∀ x ∈ innerW W ws sz, S x :=
  foldG_map hg (h := fun i => cutL W i sz) (h' := fun i => cutL W' i sz) (fun i => e i sz) (fun i => hS i sz) _ ws hw
theorem innerM_map {S : List Nat → Prop} (hg : ∀ u v, S u → S v → mailL u = mailL v → u = v) {W : List Nat} (hS : ∀ i sz, S (cutL W i sz)) (ws : List (List Nat)) (sz : Int) (hw : ∀ x ∈ ws, S x) :
    innerM W (ws.map mailL) sz = (innerW W ws sz).map mailL ∧ ∀ x ∈ innerW W ws sz, S x :=
  foldG_map hg (h := fun i => cutL W i sz) (h' := fun i => mailL (cutL W i sz)) (fun _ => rfl) (fun i => hS i sz) _ ws hw
theorem cut_map (σ : Nat → Nat) (W : List Nat) (i sz : Int) : cutL (W.map σ) i sz = (cutL W i sz).map σ := by
  unfold cutL; rw [List.map_take, List.map_drop]
theorem str_map {σ : Nat → Nat} (hσ : Inj σ) (W : List Nat) : stretchesL (W.map σ) = (stretchesL W).map (List.map σ) :=
  (foldI_map (S := fun _ => True) (fun ws sz hw => inner_map (S := fun _ => True) (fun _ _ _ _ h => map_inj' hσ h) (cut_map σ W) (fun _ _ => trivial) ws sz hw) _ [] (fun _ h => nomatch h)).1
/-- letters of a stretch are letters of the word -/
abbrev Of (W u : List Nat) : Prop := ∀ c ∈ u, c ∈ W
theorem cut_of (W : List Nat) (i sz : Int) : Of W (cutL W i sz) := fun _ hc => List.mem_of_mem_drop (List.mem_of_mem_take hc)
theorem cut_len (W : List Nat) (i sz : Int) : (cutL W i sz).length ≤ W.length := by
  unfold cutL; rw [List.length_take, List.length_drop]; omega
theorem str_all {W : List Nat} {S : List Nat → Prop} (hS : ∀ i sz, S (cutL W i sz)) : ∀ u ∈ stretchesL W, S u :=
  (foldI_map (S := S) (g := id) (F := innerW W) (F' := innerW W) (fun ws sz hw => inner_map (g := id) (fun _ _ _ _ h => h) (fun _ _ => rfl) hS ws sz hw) _ [] (fun _ h => nomatch h)).2

/-! the numbers -/
section
variable {g : List Nat → List Nat} {S : List Nat → Prop} (h0 : g [] = []) (hS0 : S []) (hg : ∀ u v, S u → S v → inB (g u) (g v) = inB u v)
include h0 hS0 hg
theorem getD_map' (ws : List (List Nat)) (k : Nat) : (ws.map g).getD k [] = g (ws.getD k []) := by
  rw [List.getD_eq_getElem?_getD, List.getD_eq_getElem?_getD, List.getElem?_map]
  cases ws[k]? with
  | none => exact h0.symm
  | some x => rfl
theorem getD_S {ws : List (List Nat)} (hw : ∀ x ∈ ws, S x) (k : Nat) : S (ws.getD k []) := by
  rw [List.getD_eq_getElem?_getD]
  cases h : ws[k]? with
  | none => exact hS0
  | some x => exact hw x (List.mem_of_getElem? h)
theorem told_map {ws : List (List Nat)} (hw : ∀ x ∈ ws, S x) : toldL (ws.map g) = toldL ws := by
  have h1 : ∀ told m acc k, S m → aboveS (ws.map g) told (g m) acc k = aboveS ws told m acc k := by
    intro told m acc k hm
    unfold aboveS
    rw [getD_map' h0 hS0 hg, hg _ _ hm (getD_S h0 hS0 hg hw _)]
  have h2 : ∀ (told : List Int) (m : List Nat) (pre : List Int) (acc : Int), S m → pre.foldl (aboveS (ws.map g) told (g m)) acc = pre.foldl (aboveS ws told m) acc := by
    intro told m pre
    induction pre with
    | nil => intro acc _; rfl
    | cons k r ih => intro acc hm; rw [List.foldl_cons, List.foldl_cons, h1 _ _ _ _ hm, ih _ hm]
  have h3 : ∀ told k, toldS (ws.map g) told k = toldS ws told k := by
    intro told k
    unfold toldS aboveF
    rw [getD_map' h0 hS0 hg, h2 _ _ _ _ (getD_S h0 hS0 hg hw _)]
  unfold toldL toldF
  rw [List.length_map, show toldS (ws.map g) = toldS ws from funext fun t => funext fun k => h3 t k]
end
theorem keyW_map {σ : Nat → Nat} (hσ : Inj σ) (W : List Nat) : keyW (W.map σ) = keyW W := by
  unfold keyW
  rw [str_map hσ, told_map (S := fun _ => True) rfl trivial (fun u v _ _ => inB_map hσ u v) (fun _ _ => trivial), List.length_map]
  have h1 : ((stretchesL W).map (List.map σ)).headD [] = ((stretchesL W).headD []).map σ := by
    cases stretchesL W <;> rfl
  have h2 : (((stretchesL W).map (List.map σ)).map fun u => dueL 6 u (W.map σ)) = (stretchesL W).map fun u => dueL 6 u W := by
    rw [List.map_map]
    exact List.map_congr_left fun u _ => due_map hσ 6 u W
  rw [h1, h2, beq_map hσ]

/-! the words, up to their letters -/
def sw (x y n : Nat) : Nat := if n = x then y else if n = y then x else n
theorem sw_sw (x y n : Nat) : sw x y (sw x y n) = n := by
  unfold sw; (repeat' split) <;> omega
theorem sw_inj (x y : Nat) : Inj (sw x y) := fun a b h => by rw [← sw_sw x y a, h, sw_sw]
abbrev ltrs : List Nat := [48, 49, 50]
def chk (a b c : Nat) : Bool := ltrs.all fun d => ltrs.all fun e => keyW [a, b, c, d, e]
theorem chk000 : chk 48 48 48 = true := by decide +kernel
theorem chk001 : chk 48 48 49 = true := by decide +kernel
theorem chk010 : chk 48 49 48 = true := by decide +kernel
theorem chk011 : chk 48 49 49 = true := by decide +kernel
theorem chk012 : chk 48 49 50 = true := by decide +kernel
theorem of_chk {a b c d e : Nat} (h : chk a b c = true) (hd : d ∈ ltrs) (he : e ∈ ltrs) : keyW [a, b, c, d, e] = true :=
  List.all_eq_true.mp (List.all_eq_true.mp h d hd) e he
theorem in3 {n : Nat} (h : n ∈ ltrs) : n = 48 ∨ n = 49 ∨ n = 50 := by simpa using h
theorem sw3 {x y n : Nat} (hx : x ∈ ltrs) (hy : y ∈ ltrs) (h : n ∈ ltrs) : sw x y n ∈ ltrs := by
  unfold sw; (repeat' split) <;> assumption
theorem to_sw (x y : Nat) {a b c d e : Nat} (h : keyW [sw x y a, sw x y b, sw x y c, sw x y d, sw x y e] = true) : keyW [a, b, c, d, e] = true := by
  rw [← keyW_map (sw_inj x y)]; exact h
theorem key48 {b c d e : Nat} (hb : b ∈ ltrs) (hc : c ∈ ltrs) (hd : d ∈ ltrs) (he : e ∈ ltrs) : keyW [48, b, c, d, e] = true := by
  have m9 : 49 ∈ ltrs := by decide
  have m0 : 50 ∈ ltrs := by decide
  have k49 : ∀ {c d e : Nat}, c ∈ ltrs → d ∈ ltrs → e ∈ ltrs → keyW [48, 49, c, d, e] = true := fun hc hd he => by
    rcases in3 hc with rfl | rfl | rfl
    · exact of_chk chk010 hd he
    · exact of_chk chk011 hd he
    · exact of_chk chk012 hd he
  rcases in3 hb with rfl | rfl | rfl
  · rcases in3 hc with rfl | rfl | rfl
    · exact of_chk chk000 hd he
    · exact of_chk chk001 hd he
    · exact to_sw 49 50 (of_chk chk001 (sw3 m9 m0 hd) (sw3 m9 m0 he))
  · exact k49 hc hd he
  · exact to_sw 49 50 (k49 (sw3 m9 m0 hc) (sw3 m9 m0 hd) (sw3 m9 m0 he))
theorem key_all {a b c d e : Nat} (ha : a ∈ ltrs) (hb : b ∈ ltrs) (hc : c ∈ ltrs) (hd : d ∈ ltrs) (he : e ∈ ltrs) : keyW [a, b, c, d, e] = true := by
  have m8 : 48 ∈ ltrs := by decide
  refine to_sw a 48 ?_
  rw [show sw a 48 a = 48 from if_pos rfl]
  exact key48 (sw3 ha m8 hb) (sw3 ha m8 hc) (sw3 ha m8 hd) (sw3 ha m8 he)

/-! mails stand in each other as their words do -/
abbrev Ltr (u : List Nat) : Prop := ∀ c ∈ u, c = 48 ∨ c = 49 ∨ c = 50
theorem pre_mail : ∀ {u v : List Nat}, Ltr u → Ltr v → (mailL u).isPrefixOf (mailL v) = u.isPrefixOf v
  | [], v, _, _ => by simp [mailL, List.isPrefixOf]
  | d :: u, [], hu, _ => by
    show (encL d ++ mailL u).isPrefixOf [] = false
    rcases hu d (.head _) with rfl | rfl | rfl <;> rfl
  | d :: u, c :: v, hu, hv => by
    have ih := pre_mail (fun x hx => hu x (.tail _ hx)) (fun x hx => hv x (.tail _ hx))
    show (encL d ++ mailL u).isPrefixOf (encL c ++ mailL v) = (d == c && u.isPrefixOf v)
    rw [← ih]
    rcases hu d (.head _) with rfl | rfl | rfl <;> rcases hv c (.head _) with rfl | rfl | rfl <;> simp [encL, List.isPrefixOf_cons_cons]
theorem inB_nil (v : List Nat) : inB [] v = true := (inB_iff [] v).mpr ⟨0, by simp, by simp⟩
theorem no10 {d x : Nat} {u v : List Nat} (hd : d = 48 ∨ d = 49 ∨ d = 50) (h : x = 10 ∨ x = 46 ∨ x = 97) : (mailL (d :: u)).isPrefixOf (x :: v) = false := by
  show (encL d ++ mailL u).isPrefixOf (x :: v) = false
  rcases hd with rfl | rfl | rfl <;> rcases h with rfl | rfl | rfl <;> rfl
theorem inB_mail {u : List Nat} (hu : Ltr u) : ∀ {v : List Nat}, Ltr v → inB (mailL u) (mailL v) = inB u v
  | v, hv => by
    match u, hu with
    | [], _ => rw [show mailL [] = [] from rfl, inB_nil, inB_nil]
    | d :: u, hu =>
      have hd := hu d (.head _)
      induction v with
      | nil =>
        show (mailL (d :: u)).isEmpty = false
        show (encL d ++ mailL u).isEmpty = false
        rcases hd with rfl | rfl | rfl <;> rfl
      | cons c v ih =>
        have h1 := ih fun x hx => hv x (.tail _ hx)
        have h2 := pre_mail hu hv
        have cons : ∀ (m : List Nat) (x : Nat) (r : List Nat), inB m (x :: r) = (m.isPrefixOf (x :: r) || inB m r) := fun _ _ _ => rfl
        rw [cons (d :: u) c v, ← h2, ← h1]
        show inB (mailL (d :: u)) (encL c ++ mailL v) = ((mailL (d :: u)).isPrefixOf (encL c ++ mailL v) || inB (mailL (d :: u)) (mailL v))
        generalize mailL v = X
        have e1 : encL 48 = [98] := rfl
        have e2 : encL 49 = [13, 10, 97] := rfl
        have e3 : encL 50 = [13, 10, 46, 46, 97] := rfl
        rcases hv c (.head _) with rfl | rfl | rfl
        · rw [e1]; simp only [List.cons_append, List.nil_append]; rw [cons]
        · rw [e2]; simp only [List.cons_append, List.nil_append]
          rw [cons, cons, cons, no10 hd (.inl rfl), no10 hd (.inr (.inr rfl)), Bool.false_or, Bool.false_or]
        · rw [e3]; simp only [List.cons_append, List.nil_append]
          rw [cons, cons, cons, cons, cons, no10 hd (.inl rfl), no10 hd (.inr (.inr rfl)), no10 hd (.inr (.inl rfl)), no10 hd (.inr (.inl rfl)), Bool.false_or, Bool.false_or, Bool.false_or, Bool.false_or]
theorem inB_self (u : List Nat) : inB u u = true := (inB_iff u u).mpr ⟨0, by simp, by simp⟩
theorem inB_len {u v : List Nat} (h : inB u v = true) : u.length ≤ v.length := by
  obtain ⟨i, h1, _⟩ := (inB_iff u v).mp h
  omega
theorem inB_same {u v : List Nat} (h : inB u v = true) (hl : u.length = v.length) : u = v := by
  obtain ⟨i, h1, h2⟩ := (inB_iff u v).mp h
  have : i = 0 := by omega
  subst this
  rw [← h2, List.drop_zero, hl, List.take_length]
theorem mail_inj {u v : List Nat} (hu : Ltr u) (hv : Ltr v) (e : mailL u = mailL v) : u = v := by
  have h1 : inB u v = true := by rw [← inB_mail hu hv, e, inB_self]
  have h2 : inB v u = true := by rw [← inB_mail hv hu, e, inB_self]
  have := inB_len h1
  have := inB_len h2
  exact inB_same h1 (by omega)
theorem mails_are {W : List Nat} (h5 : W.length = 5) (hW : Ltr W) : mailsL W = (stretchesL W).map mailL := by
  have hS : ∀ i sz, (fun u => Ltr u) (cutL W i sz) := fun i sz c hc => hW c (cut_of W i sz c hc)
  have h := foldI_map (S := fun u => Ltr u) (g := mailL) (F := innerW W) (F' := innerM W) (fun ws sz hw => innerM_map (fun u v hu hv e => mail_inj hu hv e) hS ws sz hw) (downKs 5 5) [] (fun _ h => nomatch h)
  have e : stretchesL W = innerW W ((downKs 5 5).foldl (innerW W) []) 0 := by
    unfold stretchesL
    rw [show downKs 5 6 = downKs 5 5 ++ [0] from by decide, List.foldl_append, List.foldl_cons, List.foldl_nil]
  have hp : ∀ x ∈ (downKs 5 5).foldl (innerW W) [], x ≠ [] := by
    have pos : ∀ (is : List Int), (∀ sz ∈ is, 1 ≤ sz ∧ sz ≤ 5) → ∀ ws : List (List Nat), (∀ x ∈ ws, x ≠ []) → ∀ x ∈ is.foldl (innerW W) ws, x ≠ [] := by
      intro is
      induction is with
      | nil => intro _ ws hw; exact hw
      | cons sz r ih =>
        intro hi ws hw
        rw [List.foldl_cons]
        refine ih (fun z hz => hi z (.tail _ hz)) _ ?_
        have hsz := hi sz (.head _)
        have key : ∀ (js : List Int), (∀ j ∈ js, 0 ≤ j ∧ j < 6 - sz) → ∀ ws : List (List Nat), (∀ x ∈ ws, x ≠ []) → ∀ x ∈ js.foldl (stepW W sz) ws, x ≠ [] := by
          intro js
          induction js with
          | nil => intro _ ws hw; exact hw
          | cons j q ih2 =>
            intro hj ws hw
            rw [List.foldl_cons]
            refine ih2 (fun z hz => hj z (.tail _ hz)) _ ?_
            have hj0 := hj j (.head _)
            unfold stepW
            split
            · exact hw
            · intro x hx
              rcases List.mem_append.mp hx with hx | hx
              · exact hw x hx
              · rw [List.mem_singleton.mp hx]
                intro e
                have hl := congrArg List.length e
                unfold cutL at hl
                rw [List.length_take, List.length_drop, List.length_nil, h5] at hl
                omega
        refine key _ (fun j hj => ?_) ws hw
        obtain ⟨n, hn, rfl⟩ := List.mem_map.mp hj
        have := List.mem_range.mp hn
        omega
    exact pos _ (by decide) [] (fun _ h => nomatch h)
  have e2 : ∀ ws : List (List Nat), (∀ x ∈ ws, x ≠ []) → innerW W ws 0 = ws ++ [[]] := by
    intro ws hw
    have c0 : ∀ i, cutL W i 0 = [] := fun i => rfl
    have n0 : ws.contains [] = false := by
      rw [Bool.eq_false_iff]; intro h
      exact hw [] (List.contains_iff_mem.mp h) rfl
    have y0 : (ws ++ [[]]).contains [] = true := List.contains_iff_mem.mpr (by simp)
    show (rangeKs 0 6).foldl (stepW W 0) ws = _
    have s1 : stepW W 0 ws 0 = ws ++ [[]] := by unfold stepW; rw [c0, n0]; rfl
    have s2 : ∀ i, stepW W 0 (ws ++ [[]]) i = ws ++ [[]] := fun i => by unfold stepW; rw [c0, y0]; rfl
    rw [show rangeKs 0 6 = [0, 1, 2, 3, 4, 5] from by decide]
    simp only [List.foldl_cons, List.foldl_nil, s1, s2]
  rw [e, e2 _ hp, List.map_append]
  show (downKs 5 5).foldl (innerM W) ([].map mailL) ++ [[]] = _
  rw [h.1]
  rfl
theorem key_of : ∀ {W : List Nat}, W.length = 5 → Ltr W → keyW W = true
  | [a, b, c, d, e], _, hg => by
    have m : ∀ x ∈ [a, b, c, d, e], x ∈ ltrs := fun x hx => by have := hg x hx; simpa using this
    exact key_all (m a (by simp)) (m b (by simp)) (m c (by simp)) (m d (by simp)) (m e (by simp))
theorem letters_good (ns : List Int) : Ltr (lettersL ns) := by
  intro c hc
  obtain ⟨n, _, rfl⟩ := List.mem_map.mp hc
  omega
/-- what is known of the list of the words -/
structure Words (W : List Nat) (ss : List Str) : Prop where
  eq : LL ss = stretchesL W
  le : ss.length ≤ 20
  pos : 1 ≤ ss.length
  len : ∀ u ∈ ss, u.length ≤ 5
  good : ∀ u ∈ ss, ∀ c ∈ u.cps.toList, c = 48 ∨ c = 49 ∨ c = 50
  head : (ss.getD 0 Str.empty).cps.toList = W
  mails : mailsL W = (LL ss).map mailL
  told : toldL (mailsL W) = (LL ss).map fun u => dueL 6 u W
theorem Words.of {ns : List Int} {ss : List Str} (h5 : ns.length = 5) (e : LL ss = stretchesL (lettersL ns)) : Words (lettersL ns) ss := by
  have hl : (lettersL ns).length = 5 := by simp [lettersL, h5]
  have hg := letters_good ns
  generalize lettersL ns = W at *
  have hk : keyW W = true := key_of hl hg
  have hm := mails_are hl hg
  have ha : ∀ u ∈ stretchesL W, Ltr u := str_all (S := fun u => Ltr u) fun i sz c hc => hg c (cut_of W i sz c hc)
  have hn : ∀ u ∈ stretchesL W, u.length ≤ 5 := str_all (S := fun u => u.length ≤ 5) fun i sz => by rw [← hl]; exact cut_len W i sz
  unfold keyW at hk
  rw [← e] at hk hm ha hn
  simp only [Bool.and_eq_true, beq_iff_eq, decide_eq_true_eq] at hk
  obtain ⟨⟨⟨h1, h3⟩, h6⟩, h4⟩ := hk
  rw [List.length_map] at h4 h6
  refine ⟨e, h4, h6, fun u hu => hn _ (List.mem_map_of_mem hu), fun u hu c hc => ha _ (List.mem_map_of_mem hu) c hc, ?_, hm, ?_⟩
  · match ss, h6 with
    | u :: r, _ => exact h3
  · rw [hm, told_map (S := fun u => Ltr u) rfl (fun _ h => nomatch h) (fun u v hu hv => inB_mail hu hv) ha, h1]
end Mine
end
section
open PySem PySem.W PySem.Calls PyProof.Rows PySem.Spec
set_option maxRecDepth 100000
namespace Mine
variable {w : World} {p : Program} {loose : List Str} {mean : ExcName → Option Value} {mg mb : Str → Option Value}

theorem ints_cons {vs : List Value} {n : Int} {ns : List Int} (h : IntsAre vs (n :: ns)) : ∃ t vs', vs = .int n t :: vs' ∧ IntsAre vs' ns := by
  cases h with | cons n t r => exact ⟨_, _, rfl, r⟩
theorem ints_five {vs : List Value} {ns : List Int} (h : IntsAre vs ns) (h5 : ns.length = 5) : ∃ n0 n1 n2 n3 n4 t0 t1 t2 t3 t4, ns = [n0, n1, n2, n3, n4] ∧ vs = [.int n0 t0, .int n1 t1, .int n2 t2, .int n3 t3, .int n4 t4] := by
  match ns, h5 with
  | [n0, n1, n2, n3, n4], _ =>
    obtain ⟨t0, v0, e0, g0⟩ := ints_cons h
    obtain ⟨t1, v1, e1, g1⟩ := ints_cons g0
    obtain ⟨t2, v2, e2, g2⟩ := ints_cons g1
    obtain ⟨t3, v3, e3, g3⟩ := ints_cons g2
    obtain ⟨t4, v4, e4, g4⟩ := ints_cons g3
    cases g4
    exact ⟨_, _, _, _, _, t0, t1, t2, t3, t4, rfl, by rw [e0, e1, e2, e3, e4]⟩
theorem off1_of {D : Addr} : ∀ {l : Led}, (∀ p ∈ l, p.1 ≠ D) → LCg.Off1 D l
  | [], _ => trivial
  | p :: _, h => ⟨h p (.head _), off1_of fun q hq => h q (.tail _ hq)⟩
theorem ne_same {prog : Program} {A : Around} {E : Value → Shared → Prop} {s : Shared} {a b : Addr} {xs ys : List Value} {ss us : List Str} {Q : Value → Shared → Prop} (ha : s.heap.IsList a xs.toArray) (hb : s.heap.IsList b ys.toArray) (hi : StrsAre xs ss) (hj : StrsAre ys us) (hu : A.units + 64 < cLine) (e : LL ss = LL us) (hok : ∀ x ∈ ss, PyData.strOk x = true) (h : Q (.bool false) s) :
    wpAny (model prog w) A (compareOp .NotEq (.ref a) (.ref b)) Q E s := by
  have e2 : ss = us := by
    clear hi hj ha hb hok
    induction ss generalizing us with
    | nil => cases us with
      | nil => rfl
      | cons u r => cases e
    | cons x r ih => cases us with
      | nil => cases e
      | cons u q =>
        injection e with e1 e2
        rw [str_ext e1, ih e2]
  subst e2
  have sh : SeqAt.shaped (.list (ss.map PyData.str)) = true := by
    have h1 : PyData.canLayAll0 (ss.map PyData.str) = true := by
      clear hi hj e
      induction ss with
      | nil => rfl
      | cons a r ih =>
        have h3 := hok a (.head _)
        have h4 := ih fun x hx => hok x (.tail _ hx)
        simp [PyData.canLayAll0, PyData.canLay0, h3, h4]
    have h2 : ∀ l : List Str, PyData.depthAll (l.map PyData.str) = 0 := by
      intro l; induction l with
      | nil => rfl
      | cons a r ih => simp [PyData.depthAll, PyData.depth, ih]
    simp [SeqAt.shaped, PyData.canLay0, PyData.depth, h1, h2]
  have sm : ∀ l : List Str, PySem.Spec.sameAll (l.map PyData.str) (l.map PyData.str) = true := by
    intro l; induction l with
    | nil => simp [PySem.Spec.sameAll]
    | cons a r ih => simp [PySem.Spec.sameAll, PySem.Spec.same, ih]
  exact ne_dataH_same (reads_newData ha hi.carried) (reads_newData hb hj.carried) sh sh hu (SeqAt.noMix_of_shape (.list .str) rfl _ _ (list_map_has fun _ => rfl) (list_map_has fun _ => rfl)) (by simp only [PySem.Spec.same]; rw [sm]; exact h)
theorem eq_same {prog : Program} {A : Around} {E : Value → Shared → Prop} {s : Shared} {a b : Addr} {xs ys : List Value} {ns ms : List Int} {Q : Value → Shared → Prop} (ha : s.heap.IsList a xs.toArray) (hb : s.heap.IsList b ys.toArray) (hi : IntsAre xs ns) (hj : IntsAre ys ms) (hu : A.units + 64 < cLine) (e : ns = ms) (h : Q (.bool true) s) :
    wpAny (model prog w) A (compareOp .Eq (.ref a) (.ref b)) Q E s := eq_intsK ha hi hb hj hu (by rw [decide_eq_true e]; exact h)
theorem mails_ok {W : List Nat} {ss ms : List Str} (h : Words W ss) (e : LL ms = mailsL W) : ∀ x ∈ ms, PyData.strOk x = true := by
  rw [h.mails] at e
  intro x hx
  have hm : x.cps.toList ∈ LL ms := List.mem_map_of_mem hx
  rw [e, List.map_map] at hm
  obtain ⟨u, hu, he⟩ := List.mem_map.mp hm
  have he' : mailL u.cps.toList = x.cps.toList := he
  unfold PyData.strOk
  rw [← Array.all_toList, ← he', List.all_eq_true]
  intro c hc
  obtain ⟨d, _, hd⟩ := List.mem_flatMap.mp hc
  have : c ≤ 98 := by
    unfold encL at hd
    split at hd
    · simp only [List.mem_cons, List.not_mem_nil, or_false] at hd; omega
    · split at hd <;> simp only [List.mem_cons, List.not_mem_nil, or_false] at hd <;> omega
  simp only [decide_eq_true_eq]; omega
theorem mails_eq {W : List Nat} {ss ms us : List Str} (h : Words W ss) (e : LL ms = mailsL W) (e' : LL us = (LL ss).map mailL) : LL ms = LL us := by rw [e, e', h.mails]
theorem mails_good {W : List Nat} {ss ms : List Str} (h : Words W ss) (e : LL ms = mailsL W) : ms.length ≤ 20 ∧ ∀ x ∈ ms, Dotless x.cps.toList ∧ x.length ≤ 60 := by
  rw [h.mails] at e
  refine ⟨by have := congrArg List.length e; simp only [List.length_map] at this; rw [this]; exact h.le, fun x hx => ?_⟩
  have hm : x.cps.toList ∈ LL ms := List.mem_map_of_mem hx
  rw [e, List.map_map] at hm
  obtain ⟨u, hu, he⟩ := List.mem_map.mp hm
  have he' : mailL u.cps.toList = x.cps.toList := he
  rw [← he']
  refine ⟨dotless_mail _, ?_⟩
  have hl : ∀ cs : List Nat, (mailL cs).length ≤ 5 * cs.length := by
    intro cs
    induction cs with
    | nil => simp [mailL]
    | cons c r ih =>
      have : mailL (c :: r) = encL c ++ mailL r := rfl
      rw [this, List.length_append, List.length_cons]
      have : (encL c).length ≤ 5 := by unfold encL; (repeat' split) <;> decide
      omega
  have h1 := hl u.cps.toList
  have h2 := h.len u hu
  rw [str_len] at h2 ⊢
  rw [← he']
  omega
theorem word_size {W : List Nat} {ss : List Str} (h : Words W ss) {u : Str} (hu : u ∈ ss) : u.cps.size ≤ sizeLine := by
  have h1 := h.len u hu
  have h3 := sizeLine_eq
  have h2 : u.length = u.cps.size := rfl
  omega
theorem words_size {W : List Nat} {vs : List Value} {ss : List Str} (hi : StrsAre vs ss) (h : Words W ss) : vs.toArray.size ≤ sizeLine := by
  have h1 := hi.len_eq
  have h2 := h.le
  have h3 := sizeLine_eq
  rw [List.size_toArray]; omega
section
variable {prog : Program} {A : Around} {s : Shared} {h₀ : Heap} {L : Addr} {m : Str → Option Value} {env : Env} {elt : Expr} {x : Str} {scope : Scope} {cl : List (Str × Addr)} {S : Led → Prop} {Fin : List Value → Led → Prop} {news : Led}
theorem comp_due {vs : List Value} {ss : List Str} (hi : StrsAre vs ss)
    (turn : ∀ a t I oI C oC D m₂ ys h tk (E' : Value → Shared → Prop), a ∈ ss → LCg.NsObj oC m₂ → m₂ x = some (.str a t) → Fr h₀ L h m → News h₀ L h ((I, oI) :: (C, oC) :: (D, LCg.lst ys) :: news) → LCg.Off3 I C D news → ((@Ne Nat I C) ∧ (@Ne Nat I D) ∧ (@Ne Nat C D)) →
      wpAny (model prog w) A (eval elt (compEnvC scope cl C env)) (LCg.CompEnd h₀ L m { s with heap := h, toks := tk } I oI C oC D (LCg.lst ys) S (fun y news' => ElW news (DueR (ss.getD 0 Str.empty).cps.toList) a y news')) E' { s with heap := h, toks := tk })
    (fin : ∀ ys, Rel2 (DueR (ss.getD 0 Str.empty).cps.toList) ss ys → Fin ys news) : LCg.CompRest prog w A h₀ L m env elt x scope cl s S (fun i v => vs.toArray[i]? = some v) Fin vs.toArray.size 0 [] news := comp_words _ hi turn fin
end
theorem word_in {W : List Nat} {ss : List Str} (h : Words W ss) : ss.getD 0 Str.empty ∈ ss := by
  have h1 := h.pos
  match ss, h1 with
  | u :: r, _ => exact .head _
theorem item_word {prog : Program} {A : Around} {E : Value → Shared → Prop} {s : Shared} {W : List Nat} {value slice : Expr} {l : Addr} {vs : List Value} {ss : List Str} {u : Tok} {Q : Value → Shared → Prop} (hl : s.heap.IsList l vs.toArray) (hi : StrsAre vs ss) (hW : Words W ss)
    (h : ∀ t, Q (.str (ss.getD 0 Str.empty) t) s)
    (hs : subscripted slice false (.ref l) (.int 0 u) = operate [.ref l, .int 0 u] (getItem (.ref l) (.int 0 u)) := by with_unfolding_all rfl) (hg : ∀ r, letTemporaryGo value (.ref l) r = pure () := by intro _; with_unfolding_all rfl) :
    wpAny (model prog w) A (subscriptTail value slice (.ref l) (.int 0 u)) Q E s :=
  item_strsA hl hi (by decide) (by have := hW.pos; omega) (by decide) h hs hg
theorem due_eq {W : List Nat} {ss : List Str} (h : Words W ss) : ((LL ss).map fun u => dueL 6 u W) = (LL ss).map fun u => dueL 6 u (ss.getD 0 Str.empty).cps.toList := by rw [h.head]
theorem end_lets {h₀ : Heap} {L I C D : Addr} {m : Str → Option Value} {s₁ : Shared} {oI oC oD : Obj} {S : Led → Prop} {α : Type} {R : α → Value → Prop} {a : α} {y : Value} {h' : Heap} {tk : Nat} {all news : Led}
    (F : Fr h₀ L h' m) (N : News h₀ L h' all) (sub : ∀ p ∈ (I, oI) :: (C, oC) :: (D, oD) :: news, p ∈ all) (off : LCg.Off3 I C D news) (hS : S news) (r : R a y) :
    LCg.CompEnd h₀ L m s₁ I oI C oC D oD S (fun y news' => ElW news R a y news') y { s₁ with heap := h', toks := tk } := LCg.CompEnd.intro F N news sub off hS ⟨rfl, r⟩
theorem int48 : PySem.intText? ⟨#[48]⟩ = some 0 := by decide +kernel
theorem int49 : PySem.intText? ⟨#[49]⟩ = some 1 := by decide +kernel
theorem int50 : PySem.intText? ⟨#[50]⟩ = some 2 := by decide +kernel
theorem pick {W : List Nat} {ss : List Str} {u : Str} {c : Nat} (hc : c ∈ u.cps.toList) (h : Words W ss) (hu : u ∈ ss) : c = 48 ∨ c = 49 ∨ c = 50 := h.good u hu c hc
theorem enc_pick {c : Nat} (h : c = 48 ∨ c = 49 ∨ c = 50) : c < 128 := by omega
theorem word_ascii {W : List Nat} {ss : List Str} (h : Words W ss) {u : Str} (hu : u ∈ ss) : u.cps.all (· < 128) = true := by
  rw [← Array.all_toList, List.all_eq_true]
  intro c hc
  have := h.good u hu c hc
  simp only [decide_eq_true_eq]
  omega
section
variable {dp un : Nat} {gd : Option (List Code)} {cn : Str} {cs : Scope} {a : Addr} {ccd : Value} {cl : List (Str × Addr)} {outer : List Env} {A₀ : Around} {base h₀ : Heap} {L : Addr} {m : Str → Option Value} {news : Led} {s : Shared} {Q E : Value → Shared → Prop} {l : Addr} {vs : List Value} {ns : List Int} {ss : List Str}
theorem stretches_use (hI : IntsAre vs ns) (h5 : ns.length = 5)
    (B : Below A₀ base outer h₀) (F : Fr h₀ L s.heap m) (X : (hd.heap_39 w.params).In h₀) (N : News h₀ L s.heap news) (T : Top p loose mean mg mb h₀) (hk : cs.kind = .function) (hd : dp + 12 < recursionLimit) (hu : un + 96 < cLine) (hl : s.heap.IsList l vs.toArray)
    (ret : ∀ D ws ss k h' tk', StrsAre ws ss → Words (lettersL ns) ss → Fr h₀ L h' m → News h₀ L h' ((D, listOf ws.toArray k) :: news) → LCg.Off1 D news → Q (.ref D) { s with heap := h', toks := tk' }) :
    wpAny (model PySem.Challenge.rw_sw0005_01.row.prog w) (ktrTop dp un gd cn cs L a ccd cl outer) (call (.ref 102) [.ref l]) Q E s := by
  obtain ⟨n0, n1, n2, n3, n4, t0, t1, t2, t3, t4, rfl, rfl⟩ := ints_five hI h5
  refine (con_stretches l n0 n1 n2 n3 n4 t0 t1 t2 t3 t4).use B F X N T hk hd hu hl fun r new h' tk' F' N' hoff hp => ?_
  obtain ⟨D, ws, ss, k, rfl, rfl, h1, h2⟩ := hp
  exact ret D ws ss k h' tk' h1 (Words.of h5 h2) F' N' (off1_of fun p hp => hoff _ (.head _) p hp)
theorem mails_use (hI : IntsAre vs ns) (h5 : ns.length = 5)
    (B : Below A₀ base outer h₀) (F : Fr h₀ L s.heap m) (X : (hd.heap_39 w.params).In h₀) (N : News h₀ L s.heap news) (T : Top p loose mean mg mb h₀) (hk : cs.kind = .function) (hd : dp + 30 < recursionLimit) (hu : un + 240 < cLine) (hl : s.heap.IsList l vs.toArray)
    (ret : ∀ D ws ss k h' tk', StrsAre ws ss → LL ss = mailsL (lettersL ns) → Fr h₀ L h' m → News h₀ L h' ((D, listOf ws.toArray k) :: news) → LCg.Off1 D news → Q (.ref D) { s with heap := h', toks := tk' }) :
    wpAny (model PySem.Challenge.rw_sw0005_01.row.prog w) (ktrTop dp un gd cn cs L a ccd cl outer) (call (.ref 90) [.ref l]) Q E s := by
  refine (con_mails l vs ns hI h5).use B F X N T hk hd hu hl fun r new h' tk' F' N' hoff hp => ?_
  obtain ⟨D, ws, ss, k, rfl, rfl, h1, h2⟩ := hp
  exact ret D ws ss k h' tk' h1 h2 F' N' (off1_of fun p hp => hoff _ (.head _) p hp)
theorem told_use {W : List Nat} {us₀ : List Str} (hI : StrsAre vs ss) (hW : Words W us₀) (e : LL ss = mailsL W)
    (B : Below A₀ base outer h₀) (F : Fr h₀ L s.heap m) (X : (hd.heap_39 w.params).In h₀) (N : News h₀ L s.heap news) (T : Top p loose mean mg mb h₀) (hk : cs.kind = .function) (hd : dp + 30 < recursionLimit) (hu : un + 240 < cLine) (hl : s.heap.IsList l vs.toArray)
    (ret : ∀ D us k h' tk', IntsAre us ((LL us₀).map fun u => dueL 6 u W) → Fr h₀ L h' m → News h₀ L h' ((D, listOf us.toArray k) :: news) → LCg.Off1 D news → Q (.ref D) { s with heap := h', toks := tk' }) :
    wpAny (model PySem.Challenge.rw_sw0005_01.row.prog w) (ktrTop dp un gd cn cs L a ccd cl outer) (call (.ref 97) [.ref l]) Q E s := by
  refine (con_told l vs ss hI (mails_good hW e).1 (mails_good hW e).2).use B F X N T hk hd hu hl fun r new h' tk' F' N' hoff hp => ?_
  obtain ⟨D, us, k, rfl, rfl, h1⟩ := hp
  rw [e, hW.told] at h1
  exact ret D us k h' tk' h1 F' N' (off1_of fun p hp => hoff _ (.head _) p hp)
theorem dueU {x y : Str} {tx ty : Tok} (hx : x.length ≤ 5) (hy : y.length ≤ 5)
    (B : Below A₀ base outer h₀) (F : Fr h₀ L s.heap m) (X : (hd.heap_39 w.params).In h₀) (N : News h₀ L s.heap news) (T : Top p loose mean mg mb h₀) (hk : cs.kind = .function) (hd : dp + 72 < recursionLimit) (hu : un + 576 < cLine)
    (ret : ∀ t h' tk', Fr h₀ L h' m → News h₀ L h' news → Q (.int (dueL 6 x.cps.toList y.cps.toList) t) { s with heap := h', toks := tk' }) :
    wpAny (model PySem.Challenge.rw_sw0005_01.row.prog w) (ktrTop dp un gd cn cs L a ccd cl outer) (call (.ref 109) [.str x tx, .str y ty]) Q E s := by
  refine (con_due 6 x y tx ty (by omega) (by omega) (by omega)).use B F X N T hk hd hu trivial fun r new h' tk' F' N' _ hp => ?_
  obtain ⟨⟨t, rfl⟩, rfl⟩ := hp
  exact ret t h' tk' F' N'
end

local macro_rules | `(tactic| walk_at "subscriptTail List cons Slice ref ref") => `(tactic| (k_here; walk_at "last subscriptTail"))
local macro_rules | `(tactic| walk_at "subscriptTail Name Slice ref ref") => `(tactic| (k_here; (with_reducible show wpAny _ _ (subscriptTail _ (PySem.Expr.Slice (some _) none none _) (Value.ref _) (Value.ref _)) _ _ _); k_dflt (refine' kmk_slice_ints ?F ?N ?l ?p ?q ?i ?m ?c ?_ ?s ?t ?z; (case F => k_asm); (case N => k_asm); (case l => is_list); (case p => constructor); (case q => constructor); (case i => exact .cons _ _ (.cons _ _ (.cons _ _ (.cons _ _ (.cons _ _ .nil))))); (case m => exact kmk_from (.cons _ _ (.cons _ _ (.cons _ _ (.cons _ _ (.cons _ _ .nil))))) (Int.natCast_nonneg _)); (case c => exact rfl); (case s => with_unfolding_all rfl); (case t => (intro _; with_unfolding_all rfl)); (case z => exact Nat.le_of_ble_eq_true rfl)); intro D' ws' h' F' N' l1 hI' hC' hL'; clear hC' hL'; (try k_lt l1)))
local macro_rules | `(tactic| walk_at "execs cons") => `(tactic| (k_here; with_reducible refine PySem.wpAny_execs_cons ?_))
local macro_rules | `(tactic| walk_at "call ref") => `(tactic| (k_here; k_dflt (refine' stretches_use ?x1 ?x2 ?k1 ?k2 ?k3 ?k4 ?k5 ?k6 ?k7 ?k8 ?k9 ?_; (case k9 => is_list); (case x1 => assumption); (case x2 => (simp only [List.length_append, List.length_map, List.length_drop, List.length_take, List.length_cons, List.length_nil, Int.toNat_natCast]; omega)); (case k1 => k_asm); (case k2 => k_asm); (case k3 => k_asm); (case k4 => k_asm); (case k5 => k_asm); (case k6 => exact rfl); (case k7 => (first | decide | (dsimp only [ktrTop, Around.deeper]; first | omega | decide))); (case k8 => (first | decide | (dsimp only [ktrTop, Around.deeper]; first | omega | decide))); k_whole; intro D' ws' ss' k' h' tk' hI' e1' F' N' o1'; (simp only [LCg.Off1, and_true] at o1'))))
local macro_rules | `(tactic| walk_at "call ref") => `(tactic| (k_here; k_dflt (refine' mails_use ?x1 ?x2 ?k1 ?k2 ?k3 ?k4 ?k5 ?k6 ?k7 ?k8 ?k9 ?_; (case k9 => is_list); (case x1 => assumption); (case x2 => (simp only [List.length_append, List.length_map, List.length_drop, List.length_take, List.length_cons, List.length_nil, Int.toNat_natCast]; omega)); (case k1 => k_asm); (case k2 => k_asm); (case k3 => k_asm); (case k4 => k_asm); (case k5 => k_asm); (case k6 => exact rfl); (case k7 => (first | decide | (dsimp only [ktrTop, Around.deeper]; first | omega | decide))); (case k8 => (first | decide | (dsimp only [ktrTop, Around.deeper]; first | omega | decide))); k_whole; intro D' ws' ss' k' h' tk' hI' e1' F' N' o1'; (simp only [LCg.Off1, and_true] at o1'))))
local macro_rules | `(tactic| walk_at "call ref") => `(tactic| (k_here; k_dflt (refine' told_use ?x1 ?x2 ?x3 ?k1 ?k2 ?k3 ?k4 ?k5 ?k6 ?k7 ?k8 ?k9 ?_; (case k9 => is_list); (case x1 => assumption); (case x3 => assumption); (case x2 => assumption); (case k1 => k_asm); (case k2 => k_asm); (case k3 => k_asm); (case k4 => k_asm); (case k5 => k_asm); (case k6 => exact rfl); (case k7 => (first | decide | (dsimp only [ktrTop, Around.deeper]; first | omega | decide))); (case k8 => (first | decide | (dsimp only [ktrTop, Around.deeper]; first | omega | decide))); k_whole; intro D' us' k' h' tk' hI' F' N' o1'; (simp only [LCg.Off1, and_true] at o1'))))

local macro_rules | `(tactic| walk_at "call ref") => `(tactic| (k_here; k_dflt (refine' dueU ?x1 ?x2 ?k1 ?k2 ?k3 ?k4 ?k5 ?k6 ?k7 ?k8 ?_; (case x1 => exact Words.len (by assumption) _ (by assumption)); (case x2 => exact Words.len (by assumption) _ (word_in (by assumption))); (case k1 => k_asm); (case k2 => k_asm); (case k3 => k_asm); (case k4 => k_asm); (case k5 => k_asm); (case k6 => exact rfl); (case k7 => decide); (case k8 => decide); k_whole; intro t' h' tk' F' N')))
local macro_rules | `(tactic| walk_at "eval ListComp") => `(tactic| (k_here; k_dflt (refine LCg.ListComp_U (F₀ := by k_asm) (by with_unfolding_all rfl) (by decide) (by rfl) (by decide) (by rfl) ?_)))
local macro_rules | `(tactic| walk_at "CompSrc Call nil ref") => `(tactic| (k_here; k_dflt (refine' LCg.CompSrc.ledger ?a1 ?a2 ?a3 ?a4 ?a5 ?_; (case a1 => exact rfl); (case a2 => k_asm); (case a3 => k_asm); (case a4 => k_mem); (case a5 => exact words_size (by assumption) (by assumption)); k_whole); intro g'; (refine' comp_words MailR (by assumption) (fun a' t' I' oI' C' oC' D' m' ys' h' tk' E' ha' hC' hx' F' N' off' ne' => ?_) (fun ys' hR' => ?_)); (all_goals (try (obtain ⟨us', hS', eS'⟩ := mail_strs hR'; clear hR'))); (all_goals (try (simp only [LCg.Off3, and_true] at off')))))
local macro_rules | `(tactic| walk_at "CompSrc Call cons ref") => `(tactic| (k_here; k_dflt (refine' LCg.CompSrc.ledger ?a1 ?a2 ?a3 ?a4 ?a5 ?_; (case a1 => exact rfl); (case a2 => k_asm); (case a3 => k_asm); (case a4 => k_mem); (case a5 => exact words_size (by assumption) (by assumption)); k_whole); intro g'; (refine' comp_due (by assumption) (fun a' t' I' oI' C' oC' D' m' ys' h' tk' E' ha' hC' hx' F' N' off' ne' => ?_) (fun ys' hR' => ?_)); (all_goals (try (have hI' := due_ints hR'; clear hR'))); (all_goals (try (simp only [LCg.Off3, and_true] at off')))))
local macro_rules | `(tactic| walk_at "eval ListComp") => `(tactic| (k_here; (with_reducible show wpAny _ _ (eval _ (compEnvC _ _ _ _)) _ _ _); k_dflt (refine comp_text (F₀ := by k_asm) (by with_unfolding_all rfl) (by decide) (by rfl) (by decide) (by rfl) ?_)))
local macro_rules | `(tactic| walk_at "call type:int") => `(tactic| (k_here; (with_reducible show wpAny _ _ (call (Value.type "int") [Value.str _ _]) _ _ _); k_dflt (first | refine KIN.call_text int48 (by decide) ?_ | refine KIN.call_text int49 (by decide) ?_ | refine KIN.call_text int50 (by decide) ?_)))
local macro_rules | `(tactic| walk_at "TextSrc") => `(tactic| (k_dflt (refine' TextSrc.intro ?a1 ?a2 ?a3 ?a4 ?a5 ?_; (case a1 => exact rfl); (case a2 => k_asm); (case a3 => k_asm); (case a4 => exact word_ascii (by assumption) (by assumption)); (case a5 => exact word_size (by assumption) (by assumption)); k_whole); intro g'; (refine' comp_letters LetR (fun c' t' I' oI' C' oC' D' m' ys' h' tk' E' hc' hC' hx' F' N' off' ne' => ?_) (fun ys' hR' => ?_)); (all_goals (try (simp only [LCg.Off3, and_true] at off'))); (all_goals (try ((have hg' := pick hc' (by assumption) (by assumption)); clear hc'; (rcases hg' with eg' | eg' | eg' <;> subst eg'))))))
local macro_rules | `(tactic| walk_at "CompEnd") => `(tactic| (k_here; k_dflt (refine' end_lets ?k1 ?k2 ?k3 ?k4 ?k5 ?k6; (case k1 => k_asm); (case k2 => k_asm); (case k3 => (first | exact fun _ hp => hp | exact fun _ hp => .tail _ hp | exact fun _ hp => .tail _ (.tail _ hp) | exact fun _ hp => .tail _ (.tail _ (.tail _ hp)))); (case k4 => (simp only [LCg.Off3, and_true]; assumption)); (case k5 => (first | exact True.intro | lcg_src)); (case k6 => (first | exact ⟨_, _, rfl, by decide +kernel⟩ | exact ⟨_, _, rfl, by assumption⟩ | exact ⟨_, rfl⟩)))))
local macro_rules | `(tactic| walk_at "call builtin:str.join") => `(tactic| (k_here; k_dflt (refine' join_lets ?k1 ?k2 ?k3 ?k4 ?k5 ?_; (case k1 => k_asm); (case k2 => k_mem); (case k3 => assumption); (case k4 => exact Words.len (by assumption) _ (by assumption)); (case k5 => decide +kernel); k_whole; intro z' t' k' eW')))
local macro_rules | `(tactic| walk_at "compareOp NotEq ref ref") => `(tactic| (k_here; k_dflt (refine' ne_same ?k1 ?k2 ?k3 ?k4 ?k5 ?k6 ?k7 ?_; (case k1 => is_list); (case k2 => is_list); (case k3 => assumption); (case k4 => assumption); (case k5 => exact Nat.le_of_ble_eq_true rfl); (case k6 => exact mails_eq (by assumption) (by assumption) (by assumption)); (case k7 => exact mails_ok (by assumption) (by assumption)); k_whole)))
local macro_rules | `(tactic| walk_at "compareOp Eq ref ref") => `(tactic| (k_here; k_dflt (refine' eq_same ?k1 ?k2 ?k3 ?k4 ?k5 ?k6 ?_; (case k1 => is_list); (case k2 => is_list); (case k3 => assumption); (case k4 => assumption); (case k5 => exact Nat.le_of_ble_eq_true rfl); (case k6 => exact due_eq (by assumption)); k_whole)))
local macro_rules | `(tactic| walk_at "subscriptTail Name Constant ref int") => `(tactic| (k_here; k_dflt (refine' item_word ?k1 ?k2 ?k3 ?_; (case k1 => is_list); (case k2 => assumption); (case k3 => assumption); k_whole; intro t')))

set_option pp.deepTerms false
set_option pp.maxSteps 8000
set_option maxHeartbeats 4000000
theorem holds : PySem.Challenge.rw_sw0005_01.Holds := Mine.hd (by
  k_go0; (all_goals try k_fold)
  k_steps)
end Mine
end
theorem PySem.Challenge.cw_sw0005_01_holds : PySem.Challenge.rw_sw0005_01.Holds := by
  exact Mine.holds
