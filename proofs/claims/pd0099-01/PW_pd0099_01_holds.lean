import PyProof.Rows.All
import Wide.All
import OpenK.AllK
import Wide.FinOn
import PySem.Challenge.RW_pd0099_01
set_option Elab.async false

section
open PySem PySem.W PyProof.Rows
set_option Elab.async false
namespace Mine
set_option maxRecDepth 100000
set_option maxHeartbeats 0
open_top hd for PySem.Challenge.rw_pd0099_01
end Mine
end

section
open PySem PySem.W PyProof.Rows
set_option Elab.async false
set_option maxRecDepth 100000
namespace Mine

/-- all objects stay as they are -/
def Kp (h h' : Heap) : Prop := ∀ b o, h.get? b = some o → h'.get? b = some o
theorem Kp.refl (h : Heap) : Kp h h := fun _ _ e => e
theorem Kp.trans {a b c : Heap} (x : Kp a b) (y : Kp b c) : Kp a c := fun _ _ e => y _ _ (x _ _ e)

structure Gd (w : World) (h : Heap) : Prop where
  K : (hd.heap_39 w.params).In h
  T : ∃ mean mg mb, Top hd.view_39 (looseW hd.view_39 [Str.ofString "IPV4_RE"]) mean mg mb h
theorem Gd.keeps {w : World} {h h' : Heap} (G : Gd w h) (k : Kp h h') : Gd w h' :=
  ⟨G.K.keeps k, let ⟨mean, mg, mb, T⟩ := G.T; ⟨mean, mg, mb, T.keeps k⟩⟩

structure St (s s' : Shared) : Prop where
  k : Kp s.heap s'.heap
  g : s'.gens = s.gens
  o : s'.os = s.os
theorem St.refl (s : Shared) : St s s := ⟨.refl _, rfl, rfl⟩
theorem St.trans {a b c : Shared} (x : St a b) (y : St b c) : St a c := ⟨x.k.trans y.k, y.g.trans x.g, y.o.trans x.o⟩

structure Ok (A : Around) (n : Nat) : Prop where
  d : A.depth + n ≤ 400
  u : A.units + 4 * n ≤ 4000
  h : A.handled = none
  gs : A.guards = some []
theorem Ok.form {A : Around} {n : Nat} (o : Ok A n) : ∃ d f u, A = ⟨none, d, f, some [], u⟩ := by
  obtain ⟨h, d, f, g, u⟩ := A
  obtain rfl : h = none := o.h
  obtain rfl : g = some [] := o.gs
  exact ⟨_, _, _, rfl⟩
theorem Ok.deeper {A : Around} {n : Nat} {env : Env} (o : Ok A (n + 1)) : Ok (A.deeper env) n :=
  ⟨by have := o.d; simp only [Around.deeper]; omega, by have := o.u; simp only [Around.deeper]; omega, o.h, o.gs⟩
theorem Ok.less {A : Around} {n m : Nat} (o : Ok A n) (h : m ≤ n) : Ok A m := ⟨by have := o.d; omega, by have := o.u; omega, o.h, o.gs⟩
theorem Ok.in1 {A : Around} {n : Nat} (o : Ok A (n + 1)) : Ok A.in1 n :=
  ⟨by have := o.d; simp only [Around.in1]; omega, by have := o.u; simp only [Around.in1]; omega, o.h, o.gs⟩
theorem Ok.room {A : Around} {n : Nat} (o : Ok A n) : A.depth < recursionLimit := by have := o.d; simp only [recursionLimit]; omega
theorem Ok.units {A : Around} {n : Nat} (o : Ok A n) : A.units < cLine := by have := o.u; simp only [cLine]; omega

theorem Fr.st {h₀ h h' : Heap} {L : Addr} {m : Str → Option Value} (F : Fr h₀ L h m) (k : Kp h h') : Fr h₀ L h' m :=
  ⟨F.ns.keeps k, fun b o e => k _ _ (F.keep b o e), F.above⟩
theorem News.st {h₀ h h' : Heap} {L : Addr} {news : List (Addr × Obj)} (N : News h₀ L h news) (k : Kp h h') : News h₀ L h' news :=
  fun p hp => ⟨k _ _ (N p hp).1, (N p hp).2⟩

theorem news_ret {h₀ h h' : Heap} {L a : Addr} {o : Obj} {m : Str → Option Value} {news : List (Addr × Obj)} (F : Fr h₀ L h m) (N : News h₀ L h news) (k : Kp h h') (fr : h.get? a = none) (ha : h'.get? a = some o) : News h₀ L h' ((a, o) :: news) := by
  intro p hp
  rcases List.mem_cons.mp hp with rfl | hp
  · refine ⟨ha, fun e => ?_, ?_⟩
    · obtain ⟨oL, _, _, hL, _⟩ := F.ns
      dsimp only at e
      rw [e, hL] at fr; cases fr
    · cases q : h₀.get? a with
      | none => rfl
      | some o' => rw [F.keep _ _ q] at fr; cases fr
  · exact ⟨k _ _ (N p hp).1, (N p hp).2⟩

theorem enter {prog : Program} {w : World} {A : Around} {s : Shared} {R : Result → Shared → Prop} {name qual : Str} {params : Arguments} {body : List Stmt} {scope : Scope} {dV kV doc pm cdv ct oc : Value}
    {an od : Option Addr} {osl : Array (Option Value)} {f : Addr} {args : Args} {binds : List (Str × Value)}
    (G : Gd w s.heap) (hroom : A.depth < recursionLimit)
    (ho : (hd.heap_39 w.params).lookup f = some ⟨oc, od, .func (fnOf name qual params body scope dV kV doc pm an cdv ct), osl⟩) (hcd : codeIn (hd.heap_39 w.params) cdv qual = true)
    (hbind : BindsTo s (fnOf name qual params body scope dV kV doc pm an cdv ct) args binds) (hloc : ∀ y ∈ binds, scope.names.lookup y.1 = some .local)
    (h : ∀ L h₁, Fr s.heap L h₁ (fun y => binds.reverse.lookup y) → News s.heap L h₁ [] →
      wpAny (model prog w) (A.deeper (envOf qual scope L f cdv)) (execs body (envOf qual scope L f cdv))
        (fun fl s' => R (.ok (.ret (match fl with | .ret v => v | _ => .none))) s') (fun _ _ => False)
        { s with heap := h₁, toks := s.toks + binds.length })
    (hco : scope.isCoroutine = false := by rfl) (hgen : scope.isGenerator = false := by rfl) (hk : scope.kind = .function := by rfl)
    (hcell : ∀ x ∈ scope.names, x.2 ≠ .cell := by decide) : codeAny (model prog w) A (.call (.ref f) args) R s := by
  obtain ⟨_, mg, mb, T⟩ := G.T
  refine codeAny_call_def (fd := fnOf name qual params body scope dV kV doc pm an cdv ct) (body := body) (binds := binds) hroom (G.K _ _ ho) rfl T.nolimit (codeRec_of G.K hcd) rfl hbind hcell hloc (fun h₁ hns hk₁ => ?_) hco hgen hk
  exact wpAny_mono (h s.heap.objs.size h₁ ⟨hns, hk₁, Nat.le_refl _⟩ .nil) (fun _ _ x => x) (fun _ _ x => x.elim)

end Mine
end

section
open PySem PySem.W PyProof.Rows PySem.Calls
set_option Elab.async false
set_option maxRecDepth 100000
set_option maxHeartbeats 0
namespace Mine
section
variable {prog : Program} {w : World} {A : Around} {s : Shared} {E : Value → Shared → Prop}

theorem sub_str_str : isSubtype (.type "str") (.type "str") = pure true := by rfl
theorem sub_tup_tup : isSubtype (.type "tuple") (.type "tuple") = pure true := by rfl
theorem issub_nested {tk : Tok} {dep : Int} {R : Fin → Shared → Prop} (h : R (.done (.ret (.bool true))) s) :
    wpAny (model prog w) A (Builtin.«issubclass.nested» ⟨[.type "str", .type "str", .int dep tk], []⟩) R E s := by
  have hty : typeOf (.type "str") = pure (.type "type") := by rfl
  repeat (any_goals (first | assumption | wp_step))
  rw [sub_str_str]
  repeat (any_goals (first | assumption | wp_step))
theorem kind_isn : builtinKind "issubclass.nested" = none := by decide +kernel
theorem plain_isn : plainId "issubclass.nested" = true := by decide +kernel
theorem args_isn (a b c : Value) : argsOk "issubclass.nested" ⟨[a, b, c], []⟩ := by unfold argsOk; kernel_rfl
theorem issub_str {D : Addr} {n : Nat} {Q : Value → Shared → Prop} (hD : s.heap.get? D = some {cls := .type "tuple", data := .seq #[.type "str", .type "bytes"] n}) (h : Q (.bool true) s) :
    wpAny (model prog w) A (call (.builtin "issubclass") [.type "str", .ref D]) Q E s := by
  refine call_issubclass (S := fun _ R s => s.heap.get? D = some {cls := .type "tuple", data := .seq #[.type "str", .type "bytes"] n} ∧ R (.ok (.ret (.bool true))) s) ?_ ⟨hD, h⟩
  intro prog w A R s hs
  obtain ⟨h1, h2⟩ := hs
  refine issubclass_outer ?_
  repeat (any_goals (first | assumption | wp_step))
  show wpAny _ _ (isSubtype (.type "tuple") (.type "tuple")) _ _ _
  rw [sub_tup_tup]
  repeat (any_goals (first | assumption | ((with_reducible show wpAny _ _ (call (Value.builtin "issubclass.nested") _) _ _ _); exact call_function_meets kind_isn plain_isn F.entry_issubclass_nested (args_isn _ _ _) (S := fun _ R s => R (.ok (.ret (.bool true))) s) (fun _ _ _ _ _ h => issub_nested h) (by show wpAny _ _ _ _ _ _; repeat (any_goals (first | assumption | wp_step)))) | wp_step))
end
end Mine
end

section
open PySem PySem.W PyProof.Rows
set_option Elab.async false
set_option maxRecDepth 100000
set_option maxHeartbeats 0
namespace Mine

def headV (x : Str) : Str := Txt.slice x none (some (Txt.rfind x (Str.ofString "/") + 1))
def dirV (x : Str) : Str :=
  if ((headV x).length : Int) = 0 then headV x
  else if (headV x != Txt.mul (Str.ofString "/") (headV x).length) = true then Txt.rstripChars (headV x) (Str.ofString "/") else headV x
theorem dirV_a {x : Str} (h : ((headV x).length : Int) ≠ 0) (h2 : (headV x != Txt.mul (Str.ofString "/") (headV x).length) = true) : dirV x = Txt.rstripChars (headV x) (Str.ofString "/") := by
  unfold dirV; rw [if_neg h, if_pos h2]
theorem dirV_b {x : Str} (h : ((headV x).length : Int) ≠ 0) (h2 : (headV x != Txt.mul (Str.ofString "/") (headV x).length) = false) : dirV x = headV x := by
  unfold dirV; rw [if_neg h, if_neg (by rw [h2]; decide)]
theorem dirV_c {x : Str} (h : ((headV x).length : Int) = 0) : dirV x = headV x := by
  unfold dirV; rw [if_pos h]

section
variable {prog : Program} {w : World} {A : Around} {s : Shared} {R : Result → Shared → Prop}

theorem c_get_sep {x : Str} {t : Tok} (o : Ok A 1) (G : Gd w s.heap) (h : ∀ h' tk t', Kp s.heap h' → R (.ok (.ret (.str (Str.ofString "/") t'))) { s with heap := h', toks := tk }) :
    codeAny (model prog w) A (.call (.ref 144) ⟨[.str x t], []⟩) R s := by
  obtain ⟨d0, f0, u0, rfl⟩ := o.form
  refine enter (binds := [("path", .str x t)]) G o.room (by k_is) (by k_is) (BindsTo.of_eq rfl) (locs rfl) ?_
  intro L h₁ F N
  have X := G.K
  obtain ⟨mean, mg, mb, T⟩ := G.T
  repeat' (first | walk1 | (dsimp only; walk1))
  exact h _ _ _ F.keep

local macro_rules | `(tactic| walk_at "call builtin:issubclass") => `(tactic| ((with_reducible show wpAny _ _ (call (Value.builtin _) [Value.type "str", Value.ref _]) _ _ _); (refine issub_str (News.get (by assumption) (by k_mem)) ?_)))
theorem c_fspath {x : Str} {t : Tok} (o : Ok A 1) (G : Gd w s.heap) (h : ∀ h' tk, Kp s.heap h' → R (.ok (.ret (.str x t))) { s with heap := h', toks := tk }) :
    codeAny (model prog w) A (.call (.ref 130) ⟨[.str x t], []⟩) R s := by
  obtain ⟨d0, f0, u0, rfl⟩ := o.form
  refine enter (binds := [("path", .str x t)]) G o.room (by k_is) (by k_is) (BindsTo.of_eq rfl) (locs rfl) ?_
  intro L h₁ F N
  have X := G.K
  obtain ⟨mean, mg, mb, T⟩ := G.T
  repeat' (first | walk1 | (dsimp only; walk1))
  exact h _ _ (Fr.keep (by assumption))

local macro_rules | `(tactic| walk_at "call ref") => `(tactic| ((with_reducible show wpAny _ _ (call (Value.ref 130) [Value.str _ _]) _ _ _); (refine wpAny_call (c_fspath (Ok.deeper (by assumption)) (Gd.keeps (by assumption) (Fr.keep (by assumption))) ?_)); intro h' tk' k'; (rename Fr _ _ _ _ => kF); (rename News _ _ _ _ => kN); replace kF := Fr.st kF k'; replace kN := News.st kN k'; clear k'; (try dsimp only)))
local macro_rules | `(tactic| walk_at "call ref") => `(tactic| ((with_reducible show wpAny _ _ (call (Value.ref 144) [Value.str _ _]) _ _ _); (refine wpAny_call (c_get_sep (Ok.deeper (by assumption)) (Gd.keeps (by assumption) (Fr.keep (by assumption))) ?_)); intro h' tk' t' k'; (rename Fr _ _ _ _ => kF); (rename News _ _ _ _ => kN); replace kF := Fr.st kF k'; replace kN := News.st kN k'; clear k'; (try dsimp only)))
local macro_rules | `(tactic| size_fits) => `(tactic| (simp only [sizeLine]; omega))

theorem c_dirname {x : Str} {t : Tok} (hx : x.length ≤ 1000) (o : Ok A 2) (G : Gd w s.heap) (h : ∀ h' tk t', Kp s.heap h' → R (.ok (.ret (.str (dirV x) t'))) { s with heap := h', toks := tk }) :
    codeAny (model prog w) A (.call (.ref 165) ⟨[.str x t], []⟩) R s := by
  obtain ⟨d0, f0, u0, rfl⟩ := o.form
  refine enter (binds := [("p", .str x t)]) G o.room (by k_is) (by k_is) (BindsTo.of_eq rfl) (locs rfl) ?_
  intro L h₁ F N
  have X := G.K
  obtain ⟨mean, mg, mb, T⟩ := G.T
  repeat' (first | walk1 | (dsimp only; walk1))
  all_goals (try dsimp only)
  · have e := dirV_a (x := x) (by assumption) (by assumption)
    rw [e] at h
    exact h _ _ _ (Fr.keep (by assumption))
  · have e := dirV_b (x := x) (by assumption) (by assumption)
    rw [e] at h
    exact h _ _ _ (Fr.keep (by assumption))
  · have e := dirV_c (x := x) (by assumption)
    rw [e] at h
    exact h _ _ _ (Fr.keep (by assumption))

end
end Mine
end

section
open PySem PySem.W PyProof.Rows
set_option Elab.async false
set_option maxRecDepth 100000
set_option maxHeartbeats 0
namespace Mine
section
variable {prog : Program} {w : World} {A : Around} {s : Shared} {R : Result → Shared → Prop}
local macro_rules | `(tactic| walk_at "call ref") => `(tactic| ((with_reducible show wpAny _ _ (call (Value.ref 130) [Value.str _ _]) _ _ _); (refine wpAny_call (c_fspath (Ok.deeper (by assumption)) (Gd.keeps (by assumption) (Fr.keep (by assumption))) ?_)); intro h' tk' k'; (rename Fr _ _ _ _ => kF); (rename News _ _ _ _ => kN); replace kF := Fr.st kF k'; replace kN := News.st kN k'; clear k'; (try dsimp only)))
local macro_rules | `(tactic| walk_at "call ref") => `(tactic| ((with_reducible show wpAny _ _ (call (Value.ref 144) [Value.str _ _]) _ _ _); (refine wpAny_call (c_get_sep (Ok.deeper (by assumption)) (Gd.keeps (by assumption) (Fr.keep (by assumption))) ?_)); intro h' tk' t' k'; (rename Fr _ _ _ _ => kF); (rename News _ _ _ _ => kN); replace kF := Fr.st kF k'; replace kN := News.st kN k'; clear k'; (try dsimp only)))
local macro_rules | `(tactic| size_fits) => `(tactic| (simp only [sizeLine]; omega))
def tailV (x : Str) : Str := Txt.slice x (some (Txt.rfind x (Str.ofString "/") + 1)) none
theorem c_split {x : Str} {t : Tok} (hx : x.length ≤ 1000) (o : Ok A 2) (G : Gd w s.heap)
    (h : ∀ h' tk t' t'' a n, Kp s.heap h' → s.heap.get? a = none → h'.get? a = some { cls := .type "tuple", data := .seq #[.str (dirV x) t', .str (tailV x) t''] n } → R (.ok (.ret (.ref a))) { s with heap := h', toks := tk }) :
    codeAny (model prog w) A (.call (.ref 158) ⟨[.str x t], []⟩) R s := by
  obtain ⟨d0, f0, u0, rfl⟩ := o.form
  refine enter (binds := [("p", .str x t)]) G o.room (by k_is) (by k_is) (BindsTo.of_eq rfl) (locs rfl) ?_
  intro L h₁ F N
  have X := G.K
  obtain ⟨mean, mg, mb, T⟩ := G.T
  repeat' (first | walk1 | (dsimp only; walk1))
  all_goals (try dsimp only)
  · have e := dirV_a (x := x) (by assumption) (by assumption)
    rw [e] at h
    exact h _ _ _ _ _ _ (Fr.keep (by assumption)) (News.fresh (by assumption) (List.Mem.head _)) (News.get (by assumption) (List.Mem.head _))
  · have e := dirV_b (x := x) (by assumption) (by assumption)
    rw [e] at h
    exact h _ _ _ _ _ _ (Fr.keep (by assumption)) (News.fresh (by assumption) (List.Mem.head _)) (News.get (by assumption) (List.Mem.head _))
  · have e := dirV_c (x := x) (by assumption)
    rw [e] at h
    exact h _ _ _ _ _ _ (Fr.keep (by assumption)) (News.fresh (by assumption) (List.Mem.head _)) (News.get (by assumption) (List.Mem.head _))
end
end Mine
end

section
open PySem PySem.W PyProof.Rows PySem.Calls
set_option Elab.async false
set_option maxRecDepth 100000
set_option maxHeartbeats 0
namespace Mine
section
variable {prog : Program} {w : World} {A : Around} {s : Shared} {E : Value → Shared → Prop}
theorem bind_var {fd : FuncData} {a : Value} {vs : List Value} {pa pp : Arg} {Q : List (Str × Value) → Shared → Prop} (hp : fd.params = ⟨[], [pa], some pp, [], [], none, []⟩) (hd : fd.defaults = .none)
    (h : Q [(pa.arg, a), (pp.arg, .ref s.heap.objs.size)] { s with heap := s.heap.push { cls := .type "tuple", data := .seq vs.toArray } })
    (hsz : vs.length ≤ sizeLine) : wpAny (model prog w) A (bindArgs fd ⟨a :: vs, []⟩) Q E s := by
  unfold bindArgs
  rw [hp, hd]
  simp only [List.map_nil, List.map_cons, List.nil_append, List.zip_cons_cons, List.zip_nil_left, List.length_cons, List.length_nil, List.drop_succ_cons, List.drop_zero, Option.isNone_some, Bool.and_false]
  repeat (any_goals (first | assumption | wp_step))
  simpa using h

theorem enterV {R : Result → Shared → Prop} {name qual : Str} {pa pp : Arg} {body : List Stmt} {scope : Scope} {kV doc pm cdv ct oc : Value}
    {an od : Option Addr} {osl : Array (Option Value)} {f : Addr} {a : Value} {vs : List Value}
    (G : Gd w s.heap) (hroom : A.depth < recursionLimit) (hsz : vs.length ≤ sizeLine)
    (ho : (hd.heap_39 w.params).lookup f = some ⟨oc, od, .func (fnOf name qual ⟨[], [pa], some pp, [], [], none, []⟩ body scope .none kV doc pm an cdv ct), osl⟩) (hcd : codeIn (hd.heap_39 w.params) cdv qual = true)
    (hl1 : scope.names.lookup pa.arg = some .local) (hl2 : scope.names.lookup pp.arg = some .local)
    (h : ∀ L h₁ D, Fr s.heap L h₁ (fun y => [(pa.arg, a), (pp.arg, .ref D)].reverse.lookup y) → News s.heap L h₁ [(D, { cls := .type "tuple", data := .seq vs.toArray })] →
      wpAny (model prog w) (A.deeper (envOf qual scope L f cdv)) (execs body (envOf qual scope L f cdv))
        (fun fl s' => R (.ok (.ret (match fl with | .ret v => v | _ => .none))) s') (fun _ _ => False)
        { s with heap := h₁, toks := s.toks + 2 })
    (hco : scope.isCoroutine = false := by rfl) (hgen : scope.isGenerator = false := by rfl) (hk : scope.kind = .function := by rfl)
    (hcell : ∀ x ∈ scope.names, x.2 ≠ .cell := by decide) : codeAny (model prog w) A (.call (.ref f) ⟨a :: vs, []⟩) R s := by
  obtain ⟨mean, mg, mb, T⟩ := G.T
  refine codeAny_call_function (fd := fnOf name qual ⟨[], [pa], some pp, [], [], none, []⟩ body scope .none kV doc pm an cdv ct) (body := body) hroom (G.K _ _ ho) rfl hco hgen rfl (codeRec_of G.K hcd) ?_
  refine bind_var rfl rfl ?_ hsz
  have kp : Kp s.heap (s.heap.push { cls := .type "tuple", data := .seq vs.toArray }) := fun b o e => Heap.get?_push_of_some _ e
  have hD : (s.heap.push { cls := .type "tuple", data := .seq vs.toArray }).get? s.heap.objs.size = some { cls := .type "tuple", data := .seq vs.toArray } := Heap.get?_push_size _ rfl
  have hnew : s.heap.get? s.heap.objs.size = none := by
    cases hq : s.heap.get? s.heap.objs.size with
    | none => rfl
    | some o => exact absurd (Heap.lt_size hq) (Nat.lt_irrefl _)
  have hlt := Heap.lt_size hD
  generalize hb : s.heap.push { cls := .type "tuple", data := .seq vs.toArray } = hh at kp hD hlt
  have hle : s.heap.objs.size ≤ hh.objs.size := Nat.le_of_lt hlt
  refine wpAny_newFunctionEnv hcell (fun x hx => ?_) (fun h₀ hns₀ hsb₀ => ⟨(T.keeps kp).nolimit.fresh _ hsb₀, codeAny_func ?_⟩) hk
  · rcases List.mem_cons.mp hx with rfl | hx
    · exact hl1
    · rcases List.mem_cons.mp hx with rfl | hx
      · exact hl2
      · cases hx
  have kp2 : Kp hh h₀ := fun b o e => hsb₀.extBut b o (Nat.ne_of_lt (Heap.lt_size e)) (Heap.get?_push_of_some _ e)
  refine wpAny_mono (h hh.objs.size h₀ s.heap.objs.size ⟨hns₀, kp.trans kp2, hle⟩ (fun p hp => ?_)) (fun _ _ x => x) (fun _ _ x => x.elim)
  obtain rfl := List.mem_singleton.mp hp
  exact ⟨kp2 _ _ hD, Nat.ne_of_lt hlt, hnew⟩
end
end Mine
end

section
open PySem PySem.W PyProof.Rows PySem.Calls PyProof.V
set_option Elab.async false
set_option maxRecDepth 100000
set_option maxHeartbeats 0
namespace Mine
section
variable {prog : Program} {w : World} {A : Around} {s : Shared} {E : Value → Shared → Prop} {env : Env} {h₀ : Heap} {x : Str} {body : List Stmt} {Q : Flow → Shared → Prop}
  {m₀ : Str → Option Value} {news : List (Addr × Obj)}

/-- a turn's end -/
def Turn (h₀ : Heap) (L I : Addr) (own : List (Addr × Obj)) (J : (Str → Option Value) → List (Addr × Obj) → Prop) (s : Shared) (Q : Flow → Shared → Prop) (f : Flow) (s₂ : Shared) : Prop :=
  match f with
  | .ret v => Q (.ret v) s₂
  | .brk => Q .next s₂
  | _ => ∃ h' tk m' news', s₂ = { s with heap := h', toks := tk } ∧ Fr h₀ L h' m' ∧ News h₀ L h' (own ++ news') ∧ (∀ p ∈ news', p.1 ≠ I) ∧ J m' news'

theorem iter_core {I : Addr} {fp : List Addr} {n : Nat} {P : Nat → Value → Prop} {St : Nat → Heap → Prop} (W : Walks prog w A I fp [I] n P St) (J : Nat → (Str → Option Value) → List (Addr × Obj) → Prop)
    (hLf : env.locals ∉ fp) (hwr : h₀.get? I = none) (hnw : ∀ p ∈ news, p.1 ≠ I) (live : ∀ i h, St i h → ∃ o, h.get? I = some o) (hst : St 0 s.heap) (F : Fr h₀ env.locals s.heap m₀) (N : News h₀ env.locals s.heap news) (hj : J 0 m₀ news)
    (turn : ∀ i v m₁ news₁ h tk own, i < n → P i v → J i m₁ news₁ → (∀ p ∈ news₁, p.1 ≠ I) → I < h.objs.size → Fr h₀ env.locals h (fun y => if y = x then some v else m₁ y) → News h₀ env.locals h (own ++ news₁) → ((∀ p ∈ own, p.1 ∈ fp) ∧ (I ∈ fp → ∃ o, (I, o) ∈ own)) →
      wpAny (model prog w) A (execs body env) (Turn h₀ env.locals I own (J (i + 1)) s Q) E { s with heap := h, toks := tk })
    (done : ∀ m₁ news₁ h tk, J n m₁ news₁ → Fr h₀ env.locals h m₁ → News h₀ env.locals h news₁ → Q .next { s with heap := h, toks := tk }) :
    LoopAtV prog w A h₀ env x body Q E (.ref I) s := by
  let J' : Nat → (Str → Option Value) → List (Addr × Obj) → Prop := fun i m₁ news₁ => J i m₁ news₁
  refine ⟨I, fp, [I], n, P, St, m₀, news, J', rfl, W, hLf, fun b hb => (List.mem_singleton.mp hb) ▸ hwr, fun p hp h => hnw p hp (List.mem_singleton.mp h), hst, F, N, hj, ?_, ?_⟩
  · rintro i v m₁ news₁ s₁ own ⟨hh', tk', rfl⟩ hin hP hJ hoff hown hown2 hall hst1 F₁ N₁
    obtain ⟨oI, hoI⟩ := live _ _ hst1
    have hI1 : I < hh'.objs.size := Heap.lt_size hoI
    refine wpAny_mono (turn i v m₁ news₁ hh' tk' own hin hP hJ (fun p hp e => hoff p hp (List.mem_singleton.mpr e)) hI1 F₁ N₁ ⟨hown, fun hm => ⟨oI, hall I hm hwr oI hoI⟩⟩) (fun f s₂ p => ?_) fun _ _ e => e
    have fin : (∃ h' tk m' news', s₂ = { s with heap := h', toks := tk } ∧ Fr h₀ env.locals h' m' ∧ News h₀ env.locals h' (own ++ news') ∧ (∀ p ∈ news', p.1 ≠ I) ∧ J (i + 1) m' news') → LoopStepU h₀ env.locals [I] own (J' (i + 1)) { s with heap := hh', toks := tk' } .next s₂ := by
      rintro ⟨h', tk, m', news', e, F', N', hn, hm⟩
      exact ⟨rfl, h', tk, m', news', e, F', N', fun p hp h => hn p hp (List.mem_singleton.mp h), hm⟩
    cases f with
    | ret v => exact .ret p
    | brk => exact .brk p
    | next => exact .next (fin p)
    | cont => exact .cont (fin p)
  · rintro h' tk m' news' F' N' _ hJ
    exact done m' news' h' tk hJ F' N'

theorem next_new {h₀ h : Heap} {L : Addr} {m : Str → Option Value} (F : Fr h₀ L h m) : h₀.get? h.objs.size = none := by
  cases hq : h₀.get? h.objs.size with
  | none => rfl
  | some o => exact absurd (Heap.lt_size (F.keep _ _ hq)) (Nat.lt_irrefl _)

/-- for x in a tuple -/
theorem iterT {l : Addr} {vs : List Value} (J : Nat → (Str → Option Value) → List (Addr × Obj) → Prop) (hh : A.handled = none) (hl : IsTup s.heap l vs.toArray) (hlL : l ≠ env.locals)
    (F : Fr h₀ env.locals s.heap m₀) (N : News h₀ env.locals s.heap news) (hj : J 0 m₀ news)
    (turn : ∀ i v m₁ news₁ h tk own I, vs[i]? = some v → J i m₁ news₁ → (∀ p ∈ news₁, p.1 ≠ I) → I < h.objs.size → Fr h₀ env.locals h (fun y => if y = x then some v else m₁ y) → News h₀ env.locals h (own ++ news₁) →
      wpAny (model prog w) A (execs body env) (Turn h₀ env.locals I own (J (i + 1)) s Q) E { s with heap := h, toks := tk })
    (done : ∀ m₁ news₁ h tk, J vs.length m₁ news₁ → Fr h₀ env.locals h m₁ → News h₀ env.locals h news₁ → Q .next { s with heap := h, toks := tk }) :
    wpAny (model prog w) A (pyIter (.ref l)) (fun it s₂ => LoopAtV prog w A h₀ env x body Q E it s₂) E s := by
  obtain ⟨ol, hol, hcl, nl, hdl⟩ := id hl
  have hne : l ≠ s.heap.objs.size := Nat.ne_of_lt (Heap.lt_size hol)
  have ht : s.heap.IsTuple l vs.toArray := ⟨ol, hol, hcl, nl, hdl⟩
  refine wpAny_pyIter_tuple ht ?_
  have W := Walks.tuple (prog := prog) (w := w) hh s.heap.objs.size l hne vs.toArray
  refine iter_core W J ?_ (next_new F) (fun p hp e => absurd (Heap.lt_size (N p hp).1) (e ▸ Nat.lt_irrefl _)) (fun i h st => ?_) ⟨⟨_, Heap.get?_push_size _ rfl, rfl, rfl⟩, ht.at fun o e => Heap.get?_push_of_some _ e⟩ (F.push _)
    (fun p hp => ⟨Heap.get?_push_of_some _ (N p hp).1, (N p hp).2⟩) hj ?_ ?_
  · intro hm
    rcases List.mem_cons.mp hm with e | hm
    · exact absurd F.ns.lt (e ▸ Nat.lt_irrefl _)
    · exact hlL (List.mem_singleton.mp hm).symm
  · obtain ⟨⟨o, ho, _⟩, _⟩ := st
    exact ⟨o, ho⟩
  · intro i v m₁ news₁ h tk own hi hP hJ hoff hI F₁ N₁ hown
    exact turn i v m₁ news₁ h tk own _ (by simpa using hP) hJ hoff hI F₁ N₁
  · intro m₁ news₁ h tk hJ F₁ N₁
    exact done m₁ news₁ h tk (by simpa using hJ) F₁ N₁

/-- for x in a list -/
theorem iterL {l : Addr} {vs : List Value} (J : Nat → (Str → Option Value) → List (Addr × Obj) → Prop) (hh : A.handled = none) (hl : s.heap.IsList l vs.toArray) (hlL : l ≠ env.locals)
    (F : Fr h₀ env.locals s.heap m₀) (N : News h₀ env.locals s.heap news) (hj : J 0 m₀ news)
    (turn : ∀ i v m₁ news₁ h tk own I, vs[i]? = some v → J i m₁ news₁ → (∀ p ∈ news₁, p.1 ≠ I) → I < h.objs.size → Fr h₀ env.locals h (fun y => if y = x then some v else m₁ y) → News h₀ env.locals h (own ++ news₁) → ((∀ p ∈ own, p.1 = I ∨ p.1 = l) ∧ ∃ o, (I, o) ∈ own) →
      wpAny (model prog w) A (execs body env) (Turn h₀ env.locals I own (J (i + 1)) s Q) E { s with heap := h, toks := tk })
    (done : ∀ m₁ news₁ h tk, J vs.length m₁ news₁ → Fr h₀ env.locals h m₁ → News h₀ env.locals h news₁ → Q .next { s with heap := h, toks := tk }) :
    wpAny (model prog w) A (pyIter (.ref l)) (fun it s₂ => LoopAtV prog w A h₀ env x body Q E it s₂) E s := by
  obtain ⟨ol, hol, hcl, nl, hdl⟩ := id hl
  have hne : l ≠ s.heap.objs.size := Nat.ne_of_lt (Heap.lt_size hol)
  refine wpAny_pyIter_list hl ?_
  have W := Walks.list (prog := prog) (w := w) hh s.heap.objs.size l hne vs.toArray
  refine iter_core W J ?_ (next_new F) (fun p hp e => absurd (Heap.lt_size (N p hp).1) (e ▸ Nat.lt_irrefl _)) (fun i h st => ?_) ⟨⟨_, Heap.get?_push_size _ rfl, rfl, rfl⟩, hl.at fun o e => Heap.get?_push_of_some _ e⟩ (F.push _)
    (fun p hp => ⟨Heap.get?_push_of_some _ (N p hp).1, (N p hp).2⟩) hj ?_ ?_
  · intro hm
    rcases List.mem_cons.mp hm with e | hm
    · exact absurd F.ns.lt (e ▸ Nat.lt_irrefl _)
    · exact hlL (List.mem_singleton.mp hm).symm
  · obtain ⟨⟨o, ho, _⟩, _⟩ := st
    exact ⟨o, ho⟩
  · intro i v m₁ news₁ h tk own hi hP hJ hoff hI F₁ N₁ hown
    exact turn i v m₁ news₁ h tk own _ (by simpa using hP) hJ hoff hI F₁ N₁ ⟨fun p hp => by simpa using hown.1 p hp, hown.2 (by simp)⟩
  · intro m₁ news₁ h tk hJ F₁ N₁
    exact done m₁ news₁ h tk (by simpa using hJ) F₁ N₁

/-- names that hold these values -/
def mset : List (Str × Value) → (Str → Option Value) → Str → Option Value
  | [], m => m
  | (k, v) :: r, m => fun y => if y = k then some v else mset r m y
/-- names that hold what u says -/
def mput : List Str → (Str → Option Value) → (Str → Option Value) → Str → Option Value
  | [], _, m => m
  | k :: r, u, m => fun y => if y = k then u y else mput r u m y
theorem mput_self : ∀ (zs : List Str) (m : Str → Option Value), mput zs m m = m
  | [], _ => rfl
  | k :: r, m => by
    funext y
    simp only [mput, mput_self r m, ite_self]
theorem mput_of {zs : List Str} {u m m' : Str → Option Value} (h : ∀ z, z ∉ zs → m' z = m z) (hu : u = m') : mput zs u m = m' := by
  subst hu
  induction zs with
  | nil => funext y; exact (h y (by simp)).symm
  | cons k r ih =>
    funext y
    simp only [mput]
    split
    · rfl
    · rename_i hne
      have : ∀ (l : List Str), y ∉ l ∨ y ∈ l := fun l => (Decidable.em (y ∈ l)).symm
      rcases this r with q | q
      · clear ih
        rw [h y (by simp [hne, q])]
        clear h
        induction r with
        | nil => rfl
        | cons a b ihb => simp only [mput]; rw [if_neg (fun e => q (by simp [e]))]; exact ihb (fun e => q (by simp [e]))
      · clear ih h
        induction r with
        | nil => cases q
        | cons a b ihb =>
          simp only [mput]
          split
          · rfl
          · rename_i h2
            exact ihb (by simpa [h2] using q)
theorem mset_of {kv : List (Str × Value)} {m m' : Str → Option Value} (h1 : ∀ p ∈ kv, m' p.1 = some p.2) (h2 : ∀ z, z ∉ kv.map (·.1) → m' z = m z) : mset kv m = m' := by
  induction kv with
  | nil => funext y; exact (h2 y (by simp)).symm
  | cons p r ih =>
    obtain ⟨k, v⟩ := p
    funext y
    simp only [mset]
    split
    · rename_i e
      subst e
      exact (h1 _ (List.mem_cons_self ..)).symm
    · rename_i hne
      clear ih
      have h1' : ∀ p ∈ r, m' p.1 = some p.2 := fun p hp => h1 p (List.mem_cons_of_mem _ hp)
      have h2' : y ∉ r.map (·.1) → m' y = m y := fun hy => h2 y (by simp [hne]; simpa using hy)
      clear h1 h2
      induction r with
      | nil => exact (h2' (by simp)).symm
      | cons q t iht =>
        obtain ⟨k2, v2⟩ := q
        simp only [mset]
        split
        · rename_i e
          subst e
          exact (h1' _ (List.mem_cons_self ..)).symm
        · rename_i hne2
          exact iht (fun p hp => h1' p (List.mem_cons_of_mem _ hp)) (fun hy => h2' (by simp [hne2]; simpa using hy))

/-- what a turn hands on: the tracked names' values, the ledger -/
def Jkv (x : Str) (zs : List Str) (m₀ : Str → Option Value) (V : List (Str × Value) → List (Addr × Obj) → Prop) (m' : Str → Option Value) (news' : List (Addr × Obj)) : Prop :=
  ∃ kv, V kv news' ∧ (∀ p ∈ kv, m' p.1 = some p.2) ∧ ∀ z, z ∉ kv.map (·.1) → z ∉ x :: zs → m' z = m₀ z

theorem Jkv.form {zs : List Str} {V : List (Str × Value) → List (Addr × Obj) → Prop} {m' : Str → Option Value} {news' : List (Addr × Obj)} (h : Jkv x zs m₀ V m' news') :
    ∃ kv u, V kv news' ∧ m' = mset kv (mput (x :: zs) u m₀) := by
  obtain ⟨kv, hv, h1, h2⟩ := h
  refine ⟨kv, m', hv, (mset_of h1 fun z hz => ?_).symm⟩
  by_cases q : z ∈ x :: zs
  · generalize x :: zs = l at q
    clear h2
    induction l with
    | nil => cases q
    | cons a b ih =>
      simp only [mput]
      split
      · rfl
      · rename_i hne
        exact ih (by simpa [hne] using q)
  · rw [h2 z hz q]
    generalize x :: zs = l at q
    clear h2
    induction l with
    | nil => rfl
    | cons a b ih =>
      simp only [mput]
      rw [if_neg (fun e => q (by simp [e]))]
      exact ih (fun e => q (by simp [e]))

theorem iterT_kv {l : Addr} {vs : List Value} (zs : List Str) (V : Nat → List (Str × Value) → List (Addr × Obj) → Prop) (hh : A.handled = none) (hl : IsTup s.heap l vs.toArray) (hlL : l ≠ env.locals)
    (F : Fr h₀ env.locals s.heap m₀) (N : News h₀ env.locals s.heap news) (hj : Jkv x zs m₀ (V 0) m₀ news)
    (turn : ∀ i v kv u news₁ h tk own I, vs[i]? = some v → V i kv news₁ → (∀ p ∈ news₁, p.1 ≠ I) → I < h.objs.size → Fr h₀ env.locals h (fun y => if y = x then some v else mset kv (mput (x :: zs) u m₀) y) → News h₀ env.locals h (own ++ news₁) →
      wpAny (model prog w) A (execs body env) (Turn h₀ env.locals I own (Jkv x zs m₀ (V (i + 1))) s Q) E { s with heap := h, toks := tk })
    (done : ∀ kv u news₁ h tk, V vs.length kv news₁ → Fr h₀ env.locals h (mset kv (mput (x :: zs) u m₀)) → News h₀ env.locals h news₁ → Q .next { s with heap := h, toks := tk }) :
    wpAny (model prog w) A (pyIter (.ref l)) (fun it s₂ => LoopAtV prog w A h₀ env x body Q E it s₂) E s := by
  refine iterT (fun i m₁ news₁ => Jkv x zs m₀ (V i) m₁ news₁) hh hl hlL F N hj ?_ ?_
  · intro i v m₁ news₁ h tk own I hv hJ hoff hI F₁ N₁
    obtain ⟨kv, u, hV, rfl⟩ := hJ.form
    exact turn i v kv u news₁ h tk own I hv hV hoff hI F₁ N₁
  · intro m₁ news₁ h tk hJ F₁ N₁
    obtain ⟨kv, u, hV, rfl⟩ := hJ.form
    exact done kv u news₁ h tk hV F₁ N₁
theorem iterL_kv {l : Addr} {vs : List Value} (zs : List Str) (V : Nat → List (Str × Value) → List (Addr × Obj) → Prop) (hh : A.handled = none) (hl : s.heap.IsList l vs.toArray) (hlL : l ≠ env.locals)
    (F : Fr h₀ env.locals s.heap m₀) (N : News h₀ env.locals s.heap news) (hj : Jkv x zs m₀ (V 0) m₀ news)
    (turn : ∀ i v kv u news₁ h tk own I, vs[i]? = some v → V i kv news₁ → (∀ p ∈ news₁, p.1 ≠ I) → I < h.objs.size → Fr h₀ env.locals h (fun y => if y = x then some v else mset kv (mput (x :: zs) u m₀) y) → News h₀ env.locals h (own ++ news₁) → ((∀ p ∈ own, p.1 = I ∨ p.1 = l) ∧ ∃ o, (I, o) ∈ own) →
      wpAny (model prog w) A (execs body env) (Turn h₀ env.locals I own (Jkv x zs m₀ (V (i + 1))) s Q) E { s with heap := h, toks := tk })
    (done : ∀ kv u news₁ h tk, V vs.length kv news₁ → Fr h₀ env.locals h (mset kv (mput (x :: zs) u m₀)) → News h₀ env.locals h news₁ → Q .next { s with heap := h, toks := tk }) :
    wpAny (model prog w) A (pyIter (.ref l)) (fun it s₂ => LoopAtV prog w A h₀ env x body Q E it s₂) E s := by
  refine iterL (fun i m₁ news₁ => Jkv x zs m₀ (V i) m₁ news₁) hh hl hlL F N hj ?_ ?_
  · intro i v m₁ news₁ h tk own I hv hJ hoff hI F₁ N₁ hown
    obtain ⟨kv, u, hV, rfl⟩ := hJ.form
    exact turn i v kv u news₁ h tk own I hv hV hoff hI F₁ N₁ hown
  · intro m₁ news₁ h tk hJ F₁ N₁
    obtain ⟨kv, u, hV, rfl⟩ := hJ.form
    exact done kv u news₁ h tk hV F₁ N₁

theorem iterR {r : Addr} {a b : Int} {t u v : Tok} (J : Nat → (Str → Option Value) → List (Addr × Obj) → Prop) (hh : A.handled = none) (hr : IsRange s.heap r a b 1 t u v) (ha : -1000 ≤ a) (ha2 : a ≤ 1000) (hb : -1000 ≤ b) (hb2 : b ≤ 1000)
    (F : Fr h₀ env.locals s.heap m₀) (N : News h₀ env.locals s.heap news) (hj : J 0 m₀ news)
    (turn : ∀ (i : Nat) t' m₁ news₁ h tk own I, a + i < b → J i m₁ news₁ → (∀ p ∈ news₁, p.1 ≠ I) → I < h.objs.size → Fr h₀ env.locals h (fun y => if y = x then some (.int (a + i) t') else m₁ y) → News h₀ env.locals h (own ++ news₁) → (∀ p ∈ own, p.1 = I) →
      wpAny (model prog w) A (execs body env) (Turn h₀ env.locals I own (J (i + 1)) s Q) E { s with heap := h, toks := tk })
    (done : ∀ m₁ news₁ h tk, J (b - a).toNat m₁ news₁ → Fr h₀ env.locals h m₁ → News h₀ env.locals h news₁ → Q .next { s with heap := h, toks := tk }) :
    wpAny (model prog w) A (pyIter (.ref r)) (fun it s₂ => LoopAtV prog w A h₀ env x body Q E it s₂) E s := by
  refine wpAny_pyIter_range hr (small_one (by omega) (by omega) (by omega) (by omega)) ?_
  rw [rangeSize_nat]
  have W := Walks.range (prog := prog) (w := w) hh s.heap.objs.size a 1 (b - a).toNat
  refine iter_core W J ?_ (next_new F) (fun p hp e => absurd (Heap.lt_size (N p hp).1) (e ▸ Nat.lt_irrefl _)) (fun i h st => ⟨_, st⟩) ?_ (F.push _)
    (fun p hp => ⟨Heap.get?_push_of_some _ (N p hp).1, (N p hp).2⟩) hj ?_ ?_
  · intro hm
    exact absurd F.ns.lt ((List.mem_singleton.mp hm) ▸ Nat.lt_irrefl _)
  · show IsRangeIter _ _ _ _ _
    simpa using Heap.get?_push_size _ rfl
  · intro i v m₁ news₁ h tk own hi hP hJ hoff hI F₁ N₁ hown
    obtain ⟨t', rfl⟩ := hP
    rw [Int.mul_one] at F₁
    exact turn i t' m₁ news₁ h tk own _ (by omega) hJ hoff hI F₁ N₁ (fun p hp => by simpa using hown.1 p hp)
  · intro m₁ news₁ h tk hJ F₁ N₁
    exact done m₁ news₁ h tk hJ F₁ N₁
theorem iterR_kv {r : Addr} {a b : Int} {t u v : Tok} (zs : List Str) (V : Nat → List (Str × Value) → List (Addr × Obj) → Prop) (hh : A.handled = none) (hr : IsRange s.heap r a b 1 t u v) (ha : -1000 ≤ a) (ha2 : a ≤ 1000) (hb : -1000 ≤ b) (hb2 : b ≤ 1000)
    (F : Fr h₀ env.locals s.heap m₀) (N : News h₀ env.locals s.heap news) (hj : Jkv x zs m₀ (V 0) m₀ news)
    (turn : ∀ (i : Nat) t' kv u news₁ h tk own I, a + i < b → V i kv news₁ → (∀ p ∈ news₁, p.1 ≠ I) → I < h.objs.size → Fr h₀ env.locals h (fun y => if y = x then some (.int (a + i) t') else mset kv (mput (x :: zs) u m₀) y) → News h₀ env.locals h (own ++ news₁) → (∀ p ∈ own, p.1 = I) →
      wpAny (model prog w) A (execs body env) (Turn h₀ env.locals I own (Jkv x zs m₀ (V (i + 1))) s Q) E { s with heap := h, toks := tk })
    (done : ∀ kv u news₁ h tk, V (b - a).toNat kv news₁ → Fr h₀ env.locals h (mset kv (mput (x :: zs) u m₀)) → News h₀ env.locals h news₁ → Q .next { s with heap := h, toks := tk }) :
    wpAny (model prog w) A (pyIter (.ref r)) (fun it s₂ => LoopAtV prog w A h₀ env x body Q E it s₂) E s := by
  refine iterR (fun i m₁ news₁ => Jkv x zs m₀ (V i) m₁ news₁) hh hr ha ha2 hb hb2 F N hj ?_ ?_
  · intro i t' m₁ news₁ h tk own I hv hJ hoff hI F₁ N₁ hown
    obtain ⟨kv, u, hV, rfl⟩ := hJ.form
    exact turn i t' kv u news₁ h tk own I hv hV hoff hI F₁ N₁ hown
  · intro m₁ news₁ h tk hJ F₁ N₁
    obtain ⟨kv, u, hV, rfl⟩ := hJ.form
    exact done kv u news₁ h tk hV F₁ N₁

theorem while_kv {L : Addr} {test : Expr} {pos : Pos} (x : Str) (zs : List Str) (V : Nat → List (Str × Value) → List (Addr × Obj) → Prop) {n₀ : Nat} (F : Fr h₀ L s.heap m₀) (N : News h₀ L s.heap news) (hj : Jkv x zs m₀ (V n₀) m₀ news)
    (turn : ∀ n kv u news₁ h₁ tk₁, Fr h₀ L h₁ (mset kv (mput (x :: zs) u m₀)) → News h₀ L h₁ news₁ → V n kv news₁ →
      wpAny (model prog w) A (isTrue test env (eval test env)) (fun b s₂ =>
        if b = true then wpAny (model prog w) A (execs body env) (WhileStep h₀ L s (fun n m' news' => Jkv x zs m₀ (V n) m' news') n) E s₂ else Q .next s₂) E { s with heap := h₁, toks := tk₁ })
    (hE : PassesOwn (model prog w) A env E := by passes_own) :
    wpAny (model prog w) A (exec (.While test body [] pos) env) Q E s := by
  refine While_inv (fun n m' news' => Jkv x zs m₀ (V n) m' news') F N hj ?_ hE
  intro n m₁ news₁ h₁ tk₁ F₁ N₁ hJ
  obtain ⟨kv, u, hV, rfl⟩ := hJ.form
  exact turn n kv u news₁ h₁ tk₁ F₁ N₁ hV
end
end Mine
end

section
open PySem PySem.W PyProof.Rows
set_option Elab.async false
set_option maxRecDepth 100000
set_option maxHeartbeats 0
namespace Mine
def joinStep (p b : Str) : Str :=
  if Txt.startswith b (Str.ofString "/") = true then b else if (p.length : Int) = 0 then b else if Txt.endswith p (Str.ofString "/") = true then p ++ b else p ++ (Str.ofString "/" ++ b)
theorem js1 {p b : Str} (h : Txt.startswith b (Str.ofString "/") = true) : joinStep p b = b := by unfold joinStep; rw [if_pos h]
theorem js2 {p b : Str} (h : Txt.startswith b (Str.ofString "/") = false) (h2 : (p.length : Int) = 0) : joinStep p b = b := by unfold joinStep; rw [if_neg (by rw [h]; decide), if_pos h2]
theorem js3 {p b : Str} (h : Txt.startswith b (Str.ofString "/") = false) (h2 : (p.length : Int) ≠ 0) (h3 : Txt.endswith p (Str.ofString "/") = true) : joinStep p b = p ++ b := by unfold joinStep; rw [if_neg (by rw [h]; decide), if_neg h2, if_pos h3]
theorem js4 {p b : Str} (h : Txt.startswith b (Str.ofString "/") = false) (h2 : (p.length : Int) ≠ 0) (h3 : Txt.endswith p (Str.ofString "/") = false) : joinStep p b = p ++ (Str.ofString "/" ++ b) := by unfold joinStep; rw [if_neg (by rw [h]; decide), if_neg h2, if_neg (by rw [h3]; decide)]
theorem take_foldl {α β : Type} {f : β → α → β} {l : List α} {i : Nat} {b : α} {a : β} (h : l[i]? = some b) : (l.take (i + 1)).foldl f a = f ((l.take i).foldl f a) b := by
  rw [List.take_add_one, h]; simp
theorem strs_at {vs : List Value} {bs : List Str} {i : Nat} {v : Value} (h : StrsAre vs bs) (hv : vs[i]? = some v) : ∃ b t, v = .str b t ∧ bs[i]? = some b := by
  have hl := h.len_eq
  have hi : i < vs.length := by
    rcases Nat.lt_or_ge i vs.length with q | q
    · exact q
    · rw [List.getElem?_eq_none q] at hv; cases hv
  obtain ⟨t, ht⟩ := h.at (j := i) (y := bs[i]) (by simp [hl ▸ hi])
  rw [hv] at ht
  exact ⟨bs[i], t, Option.some.inj ht, by simp [hl ▸ hi]⟩
section
variable {prog : Program} {w : World} {A : Around} {s : Shared} {R : Result → Shared → Prop}
local macro_rules | `(tactic| walk_at "call ref") => `(tactic| ((with_reducible show wpAny _ _ (call (Value.ref 130) [Value.str _ _]) _ _ _); (refine wpAny_call (c_fspath (Ok.deeper (by assumption)) (Gd.keeps (by assumption) (Fr.keep (by assumption))) ?_)); intro h' tk' k'; (rename Fr _ _ _ _ => kF); (rename News _ _ _ _ => kN); replace kF := Fr.st kF k'; replace kN := News.st kN k'; clear k'; (try dsimp only)))
local macro_rules | `(tactic| walk_at "call ref") => `(tactic| ((with_reducible show wpAny _ _ (call (Value.ref 144) [Value.str _ _]) _ _ _); (refine wpAny_call (c_get_sep (Ok.deeper (by assumption)) (Gd.keeps (by assumption) (Fr.keep (by assumption))) ?_)); intro h' tk' t' k'; (rename Fr _ _ _ _ => kF); (rename News _ _ _ _ => kN); replace kF := Fr.st kF k'; replace kN := News.st kN k'; clear k'; (try dsimp only)))
local macro_rules | `(tactic| size_fits) => `(tactic| (simp only [sizeLine]; omega))


theorem c_joinL {a : Str} {t : Tok} {vs : List Value} {bs : List Str} (hv : StrsAre vs bs) (ha : a.length ≤ 100) (hb : ∀ b ∈ bs, b.length ≤ 60) (hx : bs.length ≤ 20) (o : Ok A 2) (G : Gd w s.heap)
    (h : ∀ h' tk t', Kp s.heap h' → (bs.foldl joinStep a).length ≤ 1400 → R (.ok (.ret (.str (bs.foldl joinStep a) t'))) { s with heap := h', toks := tk }) :
    codeAny (model prog w) A (.call (.ref 151) ⟨.str a t :: vs, []⟩) R s := by
  obtain ⟨d0, f0, u0, rfl⟩ := o.form
  have hl := hv.len_eq
  refine enterV G o.room (by simp only [sizeLine]; omega) (by k_is) (by k_is) rfl rfl ?_
  intro L h₁ D F N
  have X := G.K
  obtain ⟨mean, mg, mb, T⟩ := G.T
  repeat' (first | walk1 | (dsimp only; walk1))
  rename Fr _ _ _ _ => F1
  rename News _ _ _ _ => N1
  refine iterT_kv [] (fun i kv news' => news' = [(D, { cls := .type "tuple", data := .seq vs.toArray })] ∧ ∃ x t, x = (bs.take i).foldl joinStep a ∧ kv = [(Str.ofString "path", .str x t)] ∧ x.length ≤ 100 + 61 * i) rfl (News.isTup N1 (by k_mem)) (News.ne N1 (by k_mem)) F1 N1
    ⟨_, ⟨rfl, a, t, rfl, rfl, by omega⟩, by simp, by simp⟩ ?_ ?_
  · rintro i v kv u news₁ h tk own I hvi ⟨rfl, x, t, hx2, rfl, hxl⟩ hoff hI F2 N2
    clear F1 N1
    obtain ⟨b, t2, rfl, hbi⟩ := strs_at hv hvi
    have hbl : b.length ≤ 60 := hb b (List.mem_of_getElem? hbi)
    have hil : i < 20 := by
      rcases Nat.lt_or_ge i bs.length with q | q
      · omega
      · rw [List.getElem?_eq_none q] at hbi; cases hbi
    have hnx := take_foldl (f := joinStep) (a := a) hbi
    rw [← hx2] at hnx
    repeat' (first | walk1 | (dsimp only; walk1))
    · have e := js1 (p := x) (b := b) (by assumption)
      refine ⟨_, _, _, _, rfl, by assumption, by assumption, hoff, [(Str.ofString "path", ?va)], ?Va, ?h1a, ?h2a⟩
      case h1a => intro p hp; obtain rfl := List.mem_singleton.mp hp; exact rfl
      case Va => have : (Str.ofString "/").length = 1 := rfl; exact ⟨rfl, _, _, hnx.symm ▸ e.symm, rfl, by omega⟩
      case h2a => simp +contextual [mset, mput]
    · have e := js3 (p := x) (b := b) (by assumption) (by assumption) (by assumption)
      refine ⟨_, _, _, _, rfl, by assumption, by assumption, hoff, [(Str.ofString "path", ?vb)], ?Vb, ?h1b, ?h2b⟩
      case h1b => intro p hp; obtain rfl := List.mem_singleton.mp hp; exact rfl
      case Vb => have : (Str.ofString "/").length = 1 := rfl; exact ⟨rfl, _, _, hnx.symm ▸ e.symm, rfl, by omega⟩
      case h2b => simp +contextual [mset, mput]
    · have e := js4 (p := x) (b := b) (by assumption) (by assumption) (by assumption)
      refine ⟨_, _, _, _, rfl, by assumption, by assumption, hoff, [(Str.ofString "path", ?vc)], ?Vc, ?h1c, ?h2c⟩
      case h1c => intro p hp; obtain rfl := List.mem_singleton.mp hp; exact rfl
      case Vc => have : (Str.ofString "/").length = 1 := rfl; exact ⟨rfl, _, _, hnx.symm ▸ e.symm, rfl, by omega⟩
      case h2c => simp +contextual [mset, mput]
    · have e := js2 (p := x) (b := b) (by assumption) (by assumption)
      refine ⟨_, _, _, _, rfl, by assumption, by assumption, hoff, [(Str.ofString "path", ?vd)], ?Vd, ?h1d, ?h2d⟩
      case h1d => intro p hp; obtain rfl := List.mem_singleton.mp hp; exact rfl
      case Vd => have : (Str.ofString "/").length = 1 := rfl; exact ⟨rfl, _, _, hnx.symm ▸ e.symm, rfl, by omega⟩
      case h2d => simp +contextual [mset, mput]
  · rintro kv u news₁ hh tk ⟨rfl, x, t, hx2, rfl, hxl⟩ F2 N2
    clear F1 N1
    repeat' (first | walk1 | (dsimp only; walk1))
    rw [hl, List.take_length] at hx2
    subst hx2
    exact h _ _ _ F2.keep (by omega)
theorem c_join {a : Str} {t : Tok} {vs : List Value} {bs : List Str} (hv : StrsAre vs bs) (ha : a.length ≤ 100) (hb : ∀ b ∈ bs, b.length ≤ 20) (hx : bs.length ≤ 20) (o : Ok A 2) (G : Gd w s.heap)
    (h : ∀ h' tk t', Kp s.heap h' → (bs.foldl joinStep a).length ≤ 1400 → R (.ok (.ret (.str (bs.foldl joinStep a) t'))) { s with heap := h', toks := tk }) :
    codeAny (model prog w) A (.call (.ref 151) ⟨.str a t :: vs, []⟩) R s :=
  c_joinL hv ha (fun b hm => Nat.le_trans (hb b hm) (by decide)) hx o G h
end
end Mine
end

section
open PySem PySem.W PyProof.Rows PySem.Calls PyProof.V PySem.Spec
set_option Elab.async false
set_option maxRecDepth 100000
set_option maxHeartbeats 400000
namespace Mine
theorem ks_canLay : ∀ {ns : List Str}, (∀ x ∈ ns, PyData.strOk x = true) → PyData.canLayAll0 (ns.map PyData.str) = true
  | [], _ => rfl
  | a :: r, h => by
    simp only [List.map_cons, PyData.canLayAll0, PyData.canLay0, Bool.and_eq_true]
    exact ⟨h a (List.mem_cons_self ..), ks_canLay fun x hx => h x (List.mem_cons_of_mem _ hx)⟩
theorem ks_depth : ∀ ns : List Str, PyData.depthAll (ns.map PyData.str) = 0
  | [] => rfl
  | _ :: r => by simp [PyData.depthAll, PyData.depth, ks_depth r]
theorem ks_shaped {ns : List Str} (h : ∀ x ∈ ns, PyData.strOk x = true) : SeqAt.shaped (.list (ns.map PyData.str)) = true := by
  simp [SeqAt.shaped, PyData.canLay0, PyData.depth, ks_canLay h, ks_depth]
theorem ks_sameAll : ∀ ns ms : List Str, PySem.Spec.sameAll (ns.map PyData.str) (ms.map PyData.str) = decide (ns = ms)
  | [], [] => by simp [PySem.Spec.sameAll]
  | [], _ :: _ => by simp [PySem.Spec.sameAll]
  | _ :: _, [] => by simp [PySem.Spec.sameAll]
  | a :: r, b :: t => by
    simp only [List.map_cons, PySem.Spec.sameAll, PySem.Spec.same, ks_sameAll r t]
    by_cases h : a = b <;> by_cases h' : r = t <;> simp [h, h']
theorem ks_same (ns ms : List Str) : PySem.Spec.same (.list (ns.map PyData.str)) (.list (ms.map PyData.str)) = decide (ns = ms) := by
  simp only [PySem.Spec.same]; exact ks_sameAll ns ms
section
variable {prog : Program} {w : World} {A : Around} {E : Value → Shared → Prop} {s : Shared} {a b : Addr} {xs ys : List Value} {ns ms : List Str} {Q : Value → Shared → Prop}
theorem eq_strs (ha : s.heap.IsList a xs.toArray) (hb : s.heap.IsList b ys.toArray) (hi : StrsAre xs ns) (hj : StrsAre ys ms) (h1 : ∀ x ∈ ns, PyData.strOk x = true) (h2 : ∀ x ∈ ms, PyData.strOk x = true) (hu : A.units + 64 < cLine) (h : Q (.bool (decide (ns = ms))) s) :
    wpAny (model prog w) A (compareOp .Eq (.ref a) (.ref b)) Q E s :=
  eq_dataH_same (reads_newData ha hi.carried) (reads_newData hb hj.carried) (ks_shaped h1) (ks_shaped h2) hu (SeqAt.noMix_of_shape (.list .str) rfl _ _ (list_map_has fun _ => rfl) (list_map_has fun _ => rfl)) (by rw [ks_same]; exact h)
theorem ne_strs (ha : s.heap.IsList a xs.toArray) (hb : s.heap.IsList b ys.toArray) (hi : StrsAre xs ns) (hj : StrsAre ys ms) (h1 : ∀ x ∈ ns, PyData.strOk x = true) (h2 : ∀ x ∈ ms, PyData.strOk x = true) (hu : A.units + 64 < cLine) (h : Q (.bool (!decide (ns = ms))) s) :
    wpAny (model prog w) A (compareOp .NotEq (.ref a) (.ref b)) Q E s :=
  ne_dataH_same (reads_newData ha hi.carried) (reads_newData hb hj.carried) (ks_shaped h1) (ks_shaped h2) hu (SeqAt.noMix_of_shape (.list .str) rfl _ _ (list_map_has fun _ => rfl) (list_map_has fun _ => rfl)) (by rw [ks_same]; exact h)
end
theorem pick_run {vs : List Value} {x y : Int} (h0 : 0 ≤ x) (h1 : x ≤ y) (h2 : y ≤ vs.length) : slicePick vs.toArray (some x) (some y) none = ((vs.drop x.toNat).take (y.toNat - x.toNat)).toArray := by
  have ex : x = (x.toNat : Int) := by omega
  have ey : y = (y.toNat : Int) := by omega
  rw [ex, ey, slicePick_run vs.toArray x.toNat y.toNat (by simp; omega) (by omega)]
  simp [← ex, ← ey]
theorem pick_butlast {vs : List Value} : slicePick vs.toArray none (some (-1)) none = (vs.take (vs.length - 1)).toArray := by
  have := slicePick_butLast vs.toArray 1 (by decide)
  simpa using this
section
variable {prog : Program} {w : World} {A : Around} {E : Value → Shared → Prop} {s : Shared} {Q : Value → Shared → Prop}
theorem item_l {value slice : Expr} {l : Addr} {vs : List Value} {k : Int} {u : Tok} {v : Value} (hl : s.heap.IsList l vs.toArray) (h0 : 0 ≤ k) (hhi : k < 2 ^ 63) (hx : vs[k.toNat]? = some v) (h : Q v s)
    (hs : subscripted slice false (.ref l) (.int k u) = operate [.ref l, .int k u] (getItem (.ref l) (.int k u)) := by with_unfolding_all rfl)
    (ht : ∀ r, letTemporaryGo value (.ref l) r = pure () := by intro _; with_unfolding_all rfl) :
    wpAny (model prog w) A (subscriptTail value slice (.ref l) (.int k u)) Q E s :=
  subscriptTail_ops hl.typeIs list_getitem_lookup (wpAny_getItem_list hl h0 hhi (by simpa using hx) h) hs ht
end
theorem strs_at' {vs : List Value} {bs : List Str} {k : Int} (h : StrsAre vs bs) (h0 : 0 ≤ k) (h1 : k < bs.length) : ∃ t, vs[k.toNat]? = some (.str (bs.getD k.toNat Str.empty) t) := by
  have hk : k.toNat < bs.length := by omega
  obtain ⟨t, ht⟩ := h.at (j := k.toNat) (y := bs[k.toNat]) (by simp [hk])
  refine ⟨t, ?_⟩
  rw [ht, List.getD_eq_getElem?_getD]
  simp [hk]
theorem getD_mem {bs : List Str} {i : Nat} (h : i < bs.length) : bs.getD i Str.empty ∈ bs := by
  rw [List.getD_eq_getElem?_getD]
  simp [h]
theorem pick_some (vs : List Value) (lo hi : Option Int) : ∃ p q, slicePick vs.toArray lo hi none = ((vs.drop p).take q).toArray := by
  rw [slicePick_plain]
  exact ⟨_, _, rfl⟩
theorem pick_from1 (vs : List Value) : slicePick vs.toArray (some 1) none none = (vs.drop 1).toArray := by
  have := slicePick_from' vs.toArray 1
  simpa using this
/-- rows of texts that a ledger bears -/
inductive RowsIn (E : List (Addr × Obj)) : List Value → List (List Str) → Prop
  | nil : RowsIn E [] []
  | cons {a : Addr} {vs : List Value} {c : Nat} {ws : List Str} {us : List Value} {rs : List (List Str)} : (a, listOf (List.toArray vs) c) ∈ E → StrsAre vs ws → RowsIn E us rs → RowsIn E (.ref a :: us) (ws :: rs)
theorem RowsIn.mono {E E' : List (Addr × Obj)} {us : List Value} {rs : List (List Str)} (h : RowsIn E us rs) (sub : ∀ p ∈ E, p ∈ E') : RowsIn E' us rs := by
  induction h with
  | nil => exact .nil
  | cons hm hv _ ih => exact .cons (sub _ hm) hv ih
theorem RowsIn.len {E : List (Addr × Obj)} {us : List Value} {rs : List (List Str)} (h : RowsIn E us rs) : us.length = rs.length := by
  induction h with
  | nil => rfl
  | cons _ _ _ ih => simp [ih]
theorem RowsIn.snoc {E : List (Addr × Obj)} {us : List Value} {rs : List (List Str)} {a : Addr} {vs : List Value} {c : Nat} {ws : List Str} (h : RowsIn E us rs) (hm : (a, listOf (List.toArray vs) c) ∈ E) (hv : StrsAre vs ws) : RowsIn E (us ++ [.ref a]) (rs ++ [ws]) := by
  induction h with
  | nil => exact .cons hm hv .nil
  | cons hm' hv' _ ih => exact .cons hm' hv' ih
theorem RowsIn.at {E : List (Addr × Obj)} {us : List Value} {rs : List (List Str)} (h : RowsIn E us rs) : ∀ {i : Nat} {v : Value}, us[i]? = some v → ∃ a vs c ws, v = .ref a ∧ (a, listOf (List.toArray vs) c) ∈ E ∧ StrsAre vs ws ∧ rs[i]? = some ws := by
  induction h with
  | nil => intro i v hi; simp at hi
  | cons hm hv _ ih =>
    intro i v hi
    cases i with
    | zero => simp at hi; exact ⟨_, _, _, _, hi.symm, hm, hv, rfl⟩
    | succ i =>
      obtain ⟨a, vs, c, ws, e, h1, h2, h3⟩ := ih (i := i) (by simpa using hi)
      exact ⟨a, vs, c, ws, e, h1, h2, by simpa using h3⟩
def vocab : List Str := [Str.ofString "a", Str.ofString "co", Str.ofString "Com", Str.ofString "77", Str.ofString "b", Str.ofString "77x", Str.ofString "C", Str.ofString "local", Str.ofString "com", Str.ofString "c"]
theorem vocab_len : ∀ x ∈ vocab, x.length ≤ 5 := by decide +kernel
theorem vocab_pos : ∀ x ∈ vocab, 1 ≤ x.length := by decide +kernel
theorem vocab_ok : ∀ x ∈ vocab, PyData.strOk x = true := by decide +kernel
/-- a row of labels -/
structure Row (ws : List Str) : Prop where
  n : ws.length ≤ 10
  pos : 0 < ws.length
  v : ∀ x ∈ ws, x ∈ vocab
theorem Row.len {ws : List Str} (r : Row ws) : ∀ x ∈ ws, x.length ≤ 20 := fun x hx => Nat.le_trans (vocab_len x (r.v x hx)) (by decide)
theorem Row.ok {ws : List Str} (r : Row ws) : ∀ x ∈ ws, PyData.strOk x = true := fun x hx => vocab_ok x (r.v x hx)
end Mine
end

section
open PySem PySem.W PyProof.Rows PySem.Calls PyProof.V PyProof.Rows.LCg
set_option Elab.async false
set_option maxRecDepth 100000
set_option maxHeartbeats 400000
namespace Mine
section
variable {prog : Program} {w : World} {A : Around} {s : Shared} {h₀ : Heap} {L : Addr} {m : Str → Option Value} {env : Env} {elt : Expr} {x : Str} {scope : Scope} {cl : List (Str × Addr)} {S : List (Addr × Obj) → Prop} {P : Nat → Value → Prop}
  {Fin : List Value → List (Addr × Obj) → Prop} {news : List (Addr × Obj)}
theorem comp_ind (n : Nat) (Inv : Nat → List Value → List (Addr × Obj) → Prop)
    (turn : ∀ i ys news v I oI C oC D m₂ h tk (E' : Value → Shared → Prop), i < n → Inv i ys news → P i v → NsObj oC m₂ → m₂ x = some v → Fr h₀ L h m → News h₀ L h ((I, oI) :: (C, oC) :: (D, lst ys) :: news) → Off3 I C D news → ((@Ne Nat I C) ∧ (@Ne Nat I D) ∧ (@Ne Nat C D)) →
      wpAny (model prog w) A (eval elt (compEnvC scope cl C env)) (CompEnd h₀ L m { s with heap := h, toks := tk } I oI C oC D (lst ys) S (fun y news' => Inv (i + 1) (ys ++ [y]) news')) E' { s with heap := h, toks := tk })
    (done : ∀ ys news, Inv n ys news → Fin ys news) (h0 : Inv 0 [] news) : CompRest prog w A h₀ L m env elt x scope cl s S P Fin n 0 [] news := by
  have key : ∀ k i ys news, i + k = n → Inv i ys news → CompRest prog w A h₀ L m env elt x scope cl s S P Fin k i ys news := by
    intro k
    induction k with
    | zero =>
      intro i ys news hi hI
      obtain rfl : i = n := by omega
      exact done ys news hI
    | succ k ih =>
      intro i ys news hi hI
      refine CompRest.succ ?_
      intro v I oI C oC D m₂ h tk E' hP hN hm F N off ne
      refine wpAny_mono (turn i ys news v I oI C oC D m₂ h tk E' (by omega) hI hP hN hm F N off ne) (fun y s₂ hq => ?_) fun _ _ e => e
      obtain ⟨h', tk', news', e, F', N', off', hS, hr⟩ := hq
      exact ⟨h', tk', news', e, F', N', off', hS, ih (i + 1) (ys ++ [y]) news' (by omega) hr⟩
  exact key n 0 [] news (by omega) h0
end
end Mine
end

section
open PySem PySem.W PyProof.Rows PySem.StrLaws PySem.Builtin PySem.Builtin.Str
set_option Elab.async false
set_option maxRecDepth 100000
set_option maxHeartbeats 400000
namespace Mine
/-- the signs of a text -/
def lc (x : Str) : List Nat := x.cps.toList
theorem lc_len (x : Str) : (lc x).length = x.length := by simp [lc, Str.length]
theorem lc_app (x y : Str) : lc (x ++ y) = lc x ++ lc y := by
  show (x.cps ++ y.cps).toList = _
  simp [lc]
theorem lc_inj {x y : Str} (h : lc x = lc y) : x = y := by
  cases x; cases y
  simp only [lc] at h
  rw [Array.toList_inj.mp h]
theorem lc_slash : lc (Str.ofString "/") = [47] := by decide +kernel
theorem lc_dot : lc (Str.ofString ".") = [46] := by decide +kernel
theorem len_slash : (Str.ofString "/").length = 1 := by decide +kernel
theorem len_dot : (Str.ofString ".").length = 1 := by decide +kernel

theorem at_iff (x y : Str) (i : Nat) : At x y x.length i ↔ i + y.length ≤ x.length ∧ ((lc x).drop i).take y.length = lc y := by
  unfold At
  rw [subAt_eq]
  simp [lc]
theorem starts_iff (x y : Str) : Txt.startswith x y = true ↔ lc y <+: lc x := by
  unfold Txt.startswith
  rw [subAt_eq]
  simp only [Nat.zero_add, List.drop_zero, Bool.and_eq_true, decide_eq_true_eq, beq_iff_eq]
  constructor
  · rintro ⟨h1, h2⟩
    rw [← show (lc x).take y.length = lc y from h2]
    exact List.take_prefix ..
  · intro h
    have hl := h.length_le
    rw [lc_len, lc_len] at hl
    refine ⟨hl, ?_⟩
    have := List.prefix_iff_eq_take.mp h
    rw [lc_len] at this
    exact this.symm
theorem ends_slash (x : Str) : Txt.endswith x (Str.ofString "/") = true ↔ (lc x).getLast? = some 47 := by
  unfold Txt.endswith
  rw [subAt_eq, len_slash]
  simp only [Nat.zero_add, Bool.and_eq_true, decide_eq_true_eq, beq_iff_eq]
  rw [show (Str.ofString "/").cps.toList = [47] from lc_slash]
  have e : x.cps.toList = lc x := rfl
  rw [e]
  have hl := lc_len x
  rcases List.eq_nil_or_concat (lc x) with h | ⟨a, b, h⟩
  · rw [h] at hl ⊢
    simp
  · rw [List.concat_eq_append] at h
    rw [h] at hl ⊢
    simp at hl
    rw [show x.length - 1 = a.length by omega, List.drop_left]
    simp
    intro _
    omega

theorem rfind_none {x y : Str} (h : ∀ i, ¬ At x y x.length i) : Txt.rfind x y = -1 := by
  unfold Txt.rfind
  rcases last_spec x y with ⟨e, _⟩ | ⟨i, _, h1, _⟩
  · rw [e]
  · exact absurd h1 (h i)
theorem rfind_at {x y : Str} {i : Nat} (h : At x y x.length i) (hl : ∀ k, i < k → ¬ At x y x.length k) : Txt.rfind x y = (i : Int) := by
  unfold Txt.rfind
  rcases last_spec x y with ⟨_, e⟩ | ⟨j, e, h1, h2⟩
  · exact absurd h (e i)
  · rw [e]
    rcases Nat.lt_trichotomy i j with q | q | q
    · exact absurd h1 (hl j q)
    · rw [q]
    · exact absurd h (h2 i q)
theorem rfind_slash {x : Str} {A B : List Nat} (h : lc x = A ++ 47 :: B) (hB : 47 ∉ B) : Txt.rfind x (Str.ofString "/") = (A.length : Int) := by
  have hl := lc_len x
  rw [h] at hl
  simp at hl
  refine rfind_at ((at_iff ..).mpr ⟨by rw [len_slash]; omega, ?_⟩) fun k hk hat => ?_
  · rw [h, len_slash, List.drop_left, lc_slash]; rfl
  · obtain ⟨h1, h2⟩ := (at_iff ..).mp hat
    rw [len_slash] at h1 h2
    rw [h, lc_slash, List.drop_append, List.drop_of_length_le (by omega)] at h2
    obtain ⟨j, hj⟩ : ∃ j, k - A.length = j + 1 := ⟨k - A.length - 1, by omega⟩
    rw [hj, List.drop_succ_cons, List.nil_append] at h2
    have : 47 ∈ (B.drop j).take 1 := by rw [h2]; simp
    exact hB (List.mem_of_mem_drop (List.mem_of_mem_take this))

theorem slice_eq (x : Str) (l u : Option Int) : Txt.slice x l u = sliceText x l u := by
  first | rfl | (unfold Txt.slice sliceText; rfl)
theorem lc_slice_to {x : Str} {j : Int} (h0 : 0 ≤ j) (h1 : j ≤ x.length) : lc (Txt.slice x none (some j)) = (lc x).take j.toNat := by
  rw [slice_eq, sliceText_to ⟨h0, by rw [show x.cps.toList.length = x.length by simp [Str.length]]; exact h1⟩]
  simp [lc]
theorem lc_slice_from {x : Str} {j : Int} (h0 : 0 ≤ j) (h1 : j ≤ x.length) : lc (Txt.slice x (some j) none) = (lc x).drop j.toNat := by
  rw [slice_eq, sliceText_from ⟨h0, by rw [show x.cps.toList.length = x.length by simp [Str.length]]; exact h1⟩]
  simp only [lc]
  apply List.take_of_length_le
  simp [Str.length] at h1 ⊢
  omega

theorem lc_mul_slash : ∀ (n : Nat), 1 ≤ n → lc (Txt.mul (Str.ofString "/") (n : Int)) = List.replicate n 47 := by
  intro n hn
  unfold Txt.mul
  rw [if_neg (by omega)]
  by_cases h1 : n = 1
  · subst h1
    rw [if_pos (by rfl)]
    exact lc_slash
  · rw [if_neg (by simp [len_slash]; omega)]
    show ((List.replicate (n : Int).toNat (Str.ofString "/").cps).foldl (· ++ ·) #[]).toList = _
    rw [Int.toNat_natCast]
    have key : ∀ (k : Nat) (a : Array Nat), ((List.replicate k (Str.ofString "/").cps).foldl (· ++ ·) a).toList = a.toList ++ List.replicate k 47 := by
      intro k
      induction k with
      | zero => intro a; simp
      | succ k ih =>
        intro a
        rw [List.replicate_succ, List.foldl_cons, ih, Array.toList_append, show (Str.ofString "/").cps.toList = [47] from lc_slash, List.replicate_succ]
        simp
    simpa using key n #[]

theorem contains_slash (c : Nat) : (Str.ofString "/").cps.contains c = (c == 47) := by
  rw [← Array.contains_toList, show (Str.ofString "/").cps.toList = [47] from lc_slash]
  simp [Bool.beq_eq_decide_eq]
theorem rstrip_slash {x : Str} {A : List Nat} {c : Nat} (h : lc x = A ++ [c, 47]) (hc : c ≠ 47) : lc (Txt.rstripChars x (Str.ofString "/")) = A ++ [c] := by
  have hl := lc_len x
  rw [h] at hl
  simp at hl
  obtain ⟨j, hj, e⟩ := rstripChars_is_prefix x (Str.ofString "/")
  unfold Txt.rstripChars Txt.stripBy at e ⊢
  obtain ⟨f1, f2, f3, f4⟩ := hi_facts (Str.ofString "/").cps.contains x 0 (Nat.zero_le _)
  have g : ∀ k, x.cps.getD k 0 = (lc x).getD k 0 := fun k => by simp [lc]
  have hlo : stripLo (Str.ofString "/").cps.contains false x = 0 := rfl
  have hhi : stripHi (Str.ofString "/").cps.contains true x 0 = A.length + 1 := by
    generalize stripHi (Str.ofString "/").cps.contains true x 0 = H at f1 f2 f3 f4
    rcases Nat.lt_trichotomy H (A.length + 1) with q | q | q
    · have := f3 A.length (by omega) (by omega)
      rw [contains_slash, g, h] at this
      simp at this
      exact absurd this hc
    · exact q
    · have hH : H = A.length + 2 := by omega
      rcases f4 with q2 | q2
      · omega
      · rw [contains_slash, g, h, hH] at q2
        rw [show A.length + 2 - 1 = A.length + 1 by omega] at q2
        simp at q2
  have hs : stripSame (Str.ofString "/").cps.contains false true x = false := by
    unfold stripSame
    rw [hlo, hhi]
    simp
    omega
  rw [if_neg (by rw [hs]; decide)]
  unfold PySem.stripped
  rw [hlo, hhi]
  show (strSub x 0 (A.length + 1)).cps.toList = _
  rw [strSub_toList]
  show ((lc x).drop 0).take _ = _
  rw [h, List.drop_zero, Nat.sub_zero]
  simp [List.take_append, List.take_of_length_le]

/-- a path's front -/
theorem lc_dirV_root {x : Str} {B : List Nat} (h : lc x = 47 :: B) (hB : 47 ∉ B) : dirV x = Str.ofString "/" := by
  have hl := lc_len x
  rw [h] at hl
  simp at hl
  have hr : Txt.rfind x (Str.ofString "/") = 0 := by simpa using rfind_slash (A := []) (B := B) h hB
  have hh : lc (headV x) = [47] := by
    unfold headV
    rw [hr, lc_slice_to (by omega) (by omega), h]
    rfl
  have hhl : (headV x).length = 1 := by rw [← lc_len, hh]; rfl
  have e : headV x = Str.ofString "/" := lc_inj (hh.trans lc_slash.symm)
  unfold dirV
  rw [if_neg (by rw [hhl]; decide), if_neg, e]
  rw [hhl, e]
  decide +kernel
theorem lc_dirV {x : Str} {A B : List Nat} {c : Nat} (h : lc x = (A ++ [c]) ++ 47 :: B) (hc : c ≠ 47) (hB : 47 ∉ B) : lc (dirV x) = A ++ [c] := by
  have hl := lc_len x
  rw [h] at hl
  simp at hl
  have hr := rfind_slash h hB
  simp at hr
  have hh : lc (headV x) = A ++ [c, 47] := by
    unfold headV
    rw [hr, lc_slice_to (by omega) (by omega), h]
    rw [show ((A.length : Int) + 1 + 1).toNat = (A ++ [c]).length + 1 by simp; omega, List.take_length_add_append]
    simp
  have hhl : (headV x).length = A.length + 2 := by rw [← lc_len, hh]; simp
  unfold dirV
  rw [if_neg (by rw [hhl]; omega), if_pos]
  · exact rstrip_slash hh hc
  · rw [hhl, bne_iff_ne]
    intro e
    have := congrArg lc e
    rw [hh, lc_mul_slash _ (by omega)] at this
    have h2 : c ∈ List.replicate (A.length + 2) 47 := by rw [← this]; simp
    exact hc (List.eq_of_mem_replicate h2)

/-- a label's signs -/
theorem vocab_lc : ∀ x ∈ vocab, (lc x).all (fun c => decide (c ≠ 47 ∧ c ≠ 46 ∧ c ≠ 10)) = true := by decide +kernel
theorem vocab_ne : ∀ x ∈ vocab, lc x ≠ [] := by decide +kernel
theorem lab_no {x : Str} (h : x ∈ vocab) : 47 ∉ lc x ∧ 46 ∉ lc x ∧ 10 ∉ lc x := by
  have := List.all_eq_true.mp (vocab_lc x h)
  refine ⟨fun q => ?_, fun q => ?_, fun q => ?_⟩ <;> (have := this _ q; simp at this)
theorem lab_last {x : Str} (h : x ∈ vocab) : ∃ A c, lc x = A ++ [c] ∧ c ≠ 47 ∧ c ≠ 46 := by
  rcases List.eq_nil_or_concat (lc x) with e | ⟨A, c, e⟩
  · exact absurd e (vocab_ne x h)
  · rw [List.concat_eq_append] at e
    have := lab_no h
    rw [e] at this
    simp at this
    exact ⟨A, c, e, fun q => this.1.2 q.symm, fun q => this.2.1.2 q.symm⟩
theorem lab_starts {x : Str} (h : x ∈ vocab) : Txt.startswith x (Str.ofString "/") = false := by
  rw [Bool.eq_false_iff]
  intro q
  rw [starts_iff, lc_slash] at q
  exact (lab_no h).1 (q.subset (by simp))

theorem lc_join1 {p b : Str} (hb : b ∈ vocab) (hp : lc p ≠ []) (hl : (lc p).getLast? ≠ some 47) : lc (joinStep p b) = lc p ++ 47 :: lc b := by
  rw [js4 (lab_starts hb) (by rw [← lc_len]; intro e; exact hp (List.length_eq_zero_iff.mp (by omega))) (by rw [Bool.eq_false_iff, Ne, ends_slash]; exact hl), lc_app, lc_app, lc_slash]
  rfl
theorem lc_join0 {b : Str} (hb : b ∈ vocab) : lc (joinStep (Str.ofString "/") b) = 47 :: lc b := by
  rw [js3 (lab_starts hb) (by rw [len_slash]; decide) (by rw [ends_slash, lc_slash]; rfl), lc_app, lc_slash]
  rfl
theorem lab_last47 {A : List Nat} {b : Str} (hb : b ∈ vocab) : (A ++ lc b).getLast? ≠ some 47 := by
  obtain ⟨B, c, e, hc, _⟩ := lab_last hb
  rw [e, ← List.append_assoc]
  simp [hc]
/-- labels glued, each with a slash ahead -/
def slashed (ls : List Str) : List Nat := ls.flatMap fun b => 47 :: lc b
theorem lc_join {p : Str} : ∀ {ls : List Str}, (∀ b ∈ ls, b ∈ vocab) → lc p ≠ [] → (lc p).getLast? ≠ some 47 → lc (ls.foldl joinStep p) = lc p ++ slashed ls
  | [], _, _, _ => by simp [slashed]
  | b :: r, hv, hp, hl => by
    have hb := hv b (List.mem_cons_self ..)
    have e := lc_join1 hb hp hl
    rw [List.foldl_cons, lc_join (p := joinStep p b) (fun x hx => hv x (List.mem_cons_of_mem _ hx)) (by rw [e]; simp) (by
      rw [e]
      have := lab_last47 (A := lc p ++ [47]) hb
      simpa using this), e]
    simp [slashed]
def pathOf (ls : List Str) : Str := ls.foldl joinStep (Str.ofString "/")
theorem lc_path {ls : List Str} (hv : ∀ b ∈ ls, b ∈ vocab) (hn : ls ≠ []) : lc (pathOf ls) = slashed ls := by
  cases ls with
  | nil => exact absurd rfl hn
  | cons b r =>
    have hb := hv b (List.mem_cons_self ..)
    have e := lc_join0 hb
    unfold pathOf
    rw [List.foldl_cons, lc_join (fun x hx => hv x (List.mem_cons_of_mem _ hx)) (by rw [e]; simp) (by rw [e]; exact lab_last47 (A := [47]) hb), e]
    simp [slashed]
theorem slashed_app (a b : List Str) : slashed (a ++ b) = slashed a ++ slashed b := by simp [slashed]
theorem path_nil : pathOf [] = Str.ofString "/" := rfl
theorem slashed_last {ls : List Str} (hv : ∀ b ∈ ls, b ∈ vocab) (hn : ls ≠ []) : ∃ A c, slashed ls = A ++ [c] ∧ c ≠ 47 := by
  rcases List.eq_nil_or_concat ls with e | ⟨a, b, e⟩
  · exact absurd e hn
  · rw [List.concat_eq_append] at e
    subst e
    obtain ⟨B, c, e, hc, _⟩ := lab_last (hv b (by simp))
    exact ⟨slashed a ++ (47 :: B), c, by rw [slashed_app]; simp [slashed, e], hc⟩
/-- dirname of a path -/
theorem dir_path {ls : List Str} {l : Str} (hv : ∀ b ∈ ls ++ [l], b ∈ vocab) : dirV (pathOf (ls ++ [l])) = pathOf ls := by
  have hl : l ∈ vocab := hv l (by simp)
  have e := lc_path hv (by simp)
  rw [slashed_app] at e
  have e2 : slashed [l] = 47 :: lc l := by simp [slashed]
  rw [e2] at e
  by_cases hn : ls = []
  · subst hn
    rw [path_nil]
    exact lc_dirV_root (by simpa [slashed] using e) (lab_no hl).1
  · have hv' : ∀ b ∈ ls, b ∈ vocab := fun b hb => hv b (List.mem_append_left _ hb)
    obtain ⟨A, c, e3, hc⟩ := slashed_last hv' hn
    rw [e3] at e
    apply lc_inj
    rw [lc_dirV e hc (lab_no hl).1, lc_path hv' hn, e3]
end Mine
end

section
open PySem
set_option Elab.async false
set_option maxRecDepth 100000
set_option maxHeartbeats 400000
namespace Mine
open PySem.Sre
def code0 : Array Nat := #[14, 8, 1, 2, 4294967295, 1, 1, 46, 0, 16, 46, 24, 9, 1, 4294967295, 13, 4, 8, 0, 0, 1, 6, 5, 1]
def mk (text : Array Nat) (pc pos handed : Nat) (om : Bool) (st : Nat) (fr : List Sre.Frame) (wt : Nat) (an : Option Bool) (sn : Seen) : M :=
  { code := code0, text := text, lim := text.size, start := st, lastStart := text.size, pc := pc, pos := pos, handed := handed, outermost := om, marks := #[], frames := fr, weight := wt, answer := an, seen := sn }

theorem step_exec {m : M} (h1 : m.outcome = none) (h2 : m.answer = none) (h3 : m.pc < m.code.size) : m.step = m.exec := by
  unfold M.step
  rw [h1, h2, if_pos h3]
  rfl
section
variable {text : Array Nat} {pos hd : Nat} {om : Bool} {st : Nat} {fr : List Sre.Frame} {wt : Nat} {sn : Seen}
theorem lt9 : (mk text 9 pos hd om st fr wt none sn).pc < (mk text 9 pos hd om st fr wt none sn).code.size := by show 9 < 24; decide
theorem lt11 : (mk text 11 pos hd om st fr wt none sn).pc < (mk text 11 pos hd om st fr wt none sn).code.size := by show 11 < 24; decide
theorem lt21 : (mk text 21 pos hd om st fr wt none sn).pc < (mk text 21 pos hd om st fr wt none sn).code.size := by show 21 < 24; decide
theorem lt23 : (mk text 23 pos hd om st fr wt none sn).pc < (mk text 23 pos hd om st fr wt none sn).code.size := by show 23 < 24; decide

theorem st_lit_yes (h : pos < text.size) (h2 : text.getD pos 0 = 46) : ∃ sn', (mk text 9 pos hd om st fr wt none sn).step = mk text 11 (pos + 1) hd om st fr wt none sn' := by
  rw [step_exec rfl rfl lt9]
  have e : ops[(mk text 9 pos hd om st fr wt none sn).word 0]? = some .LITERAL := rfl
  have h' : ¬ (pos ≥ text.size) := by omega
  unfold M.exec
  simp only [e, mk, h', if_false]
  have ea : ∀ s, accepts code0 9 (text.getD pos 0) s = .ok (text.getD pos 0 == 46, s) := fun s => rfl
  simp only [ea, h2]
  exact ⟨_, rfl⟩
theorem st_lit_no (h : ¬ (pos < text.size ∧ text.getD pos 0 = 46)) : ∃ sn', (mk text 9 pos hd om st fr wt none sn).step = mk text 9 pos hd om st fr wt (some false) sn' := by
  rw [step_exec rfl rfl lt9]
  have e : ops[(mk text 9 pos hd om st fr wt none sn).word 0]? = some .LITERAL := rfl
  unfold M.exec
  by_cases h1 : pos < text.size
  · have h' : ¬ (pos ≥ text.size) := by omega
    have h2 : (text.getD pos 0 == 46) = false := by simpa using fun q => h ⟨h1, q⟩
    have ea : ∀ s, accepts code0 9 (text.getD pos 0) s = .ok (text.getD pos 0 == 46, s) := fun s => rfl
    simp only [e, mk, h', if_false, ea, h2]
    exact ⟨_, rfl⟩
  · have h' : (pos ≥ text.size) := by omega
    simp only [e, mk, h', if_true]
    exact ⟨_, rfl⟩

theorem acc15 (c : Nat) (sn : Seen) : ∃ sn', accepts code0 15 c sn = .ok (isDigit c, sn') := by
  cases h : isDigit c with
  | true =>
    refine ⟨(sn.add 8).add (55 + 0), ?_⟩
    show inSet code0 c 24 17 true sn = _
    rw [show inSet code0 c 24 17 true sn = (do if ← category 0 c then pure (true, (sn.add 8).add (55 + 0)) else inSet code0 c 23 19 true ((sn.add 8).add (55 + 0))) from rfl]
    rw [show category 0 c = .ok (isDigit c != false) from rfl, h]
    rfl
  | false =>
    refine ⟨((sn.add 8).add (55 + 0)).add 0, ?_⟩
    show inSet code0 c 24 17 true sn = _
    rw [show inSet code0 c 24 17 true sn = (do if ← category 0 c then pure (true, (sn.add 8).add (55 + 0)) else inSet code0 c 23 19 true ((sn.add 8).add (55 + 0))) from rfl]
    rw [show category 0 c = .ok (isDigit c != false) from rfl, h]
    rfl

/-- the digits from p on, n at most -/
def dn (text : Array Nat) : Nat → Nat → Nat
  | 0, _ => 0
  | n + 1, p => if isDigit (text.getD p 0) = true then dn text n (p + 1) + 1 else 0
theorem run15 : ∀ (n p found : Nat) (sn : Seen), ∃ sn', Sre.run code0 text 15 n p found sn = .ok (found + dn text n p, sn')
  | 0, p, found, sn => ⟨sn, rfl⟩
  | n + 1, p, found, sn => by
    obtain ⟨sn1, e1⟩ := acc15 (text.getD p 0) sn
    unfold Sre.run
    rw [e1]
    cases h : isDigit (text.getD p 0) with
    | true =>
      obtain ⟨sn2, e2⟩ := run15 n (p + 1) (found + 1) sn1
      refine ⟨sn2, ?_⟩
      show Sre.run code0 text 15 n (p + 1) (found + 1) sn1 = _
      rw [e2]
      simp only [dn, h, if_true]
      congr 2
      omega
    | false =>
      refine ⟨sn1, ?_⟩
      simp only [dn, h]
      rfl
theorem dn_le : ∀ n p, dn text n p ≤ n
  | 0, _ => Nat.le_refl _
  | n + 1, p => by
    unfold dn
    split
    · have := dn_le n (p + 1); omega
    · omega

def G (text : Array Nat) (p : Nat) (om : Bool) (k : Int) : Sre.Frame := { wait := .giveBack, pc := 11, pos := p, outermost := om, count := k, kept := { lastmark := -1, lastindex := -1, whole := false, marks := #[] } }

theorem st_rep_no (h : pos ≤ text.size) (h2 : dn text (text.size - pos) pos = 0) (hn : text.size ≤ 1000) : ∃ sn', (mk text 11 pos hd om st fr wt none sn).step = mk text 11 pos hd om st fr wt (some false) sn' := by
  rw [step_exec rfl rfl lt11]
  have e : ops[(mk text 11 pos hd om st fr wt none sn).word 0]? = some .REPEAT_ONE := rfl
  by_cases h1 : ((1 : Nat) : Int) > (text.size : Int) - pos
  · refine ⟨sn.add 24, ?_⟩
    unfold M.exec
    simp only [e]
    show (if ((1 : Nat) : Int) > (text.size : Int) - pos then _ else _) = _
    rw [if_pos h1]
    rfl
  · have em : min 4294967295 ((text.size : Int) - pos).toNat = text.size - pos := by omega
    obtain ⟨sn', e'⟩ := run15 (text := text) (text.size - pos) pos 0 ((sn.add 24).add 13)
    rw [h2] at e'
    refine ⟨sn', ?_⟩
    unfold M.exec
    simp only [e]
    show (if ((1 : Nat) : Int) > (text.size : Int) - pos then _ else _) = _
    rw [if_neg h1]
    show (match Sre.run code0 text 15 (min 4294967295 ((text.size : Int) - pos).toNat) pos 0 ((sn.add 24).add 13) with | .error why => _ | .ok (n, seen) => _) = _
    rw [em, e']
    rfl
theorem st_rep_yes {k : Nat} (h : pos ≤ text.size) (h2 : dn text (text.size - pos) pos = k) (hk : 0 < k) (hn : text.size ≤ 1000) (hw : wt ≤ 10) :
    ∃ sn', (mk text 11 pos hd om st fr wt none sn).step = mk text 21 (pos + k) (pos + k) om st (G text (pos + k) om k :: fr) (wt + 1) none sn' := by
  rw [step_exec rfl rfl lt11]
  have e : ops[(mk text 11 pos hd om st fr wt none sn).word 0]? = some .REPEAT_ONE := rfl
  have hle := dn_le (text := text) (text.size - pos) pos
  have em : min 4294967295 ((text.size : Int) - pos).toNat = text.size - pos := by omega
  obtain ⟨sn', e'⟩ := run15 (text := text) (text.size - pos) pos 0 ((sn.add 24).add 13)
  rw [h2, Nat.zero_add] at e'
  refine ⟨sn', ?_⟩
  unfold M.exec
  simp only [e]
  show (if ((1 : Nat) : Int) > (text.size : Int) - pos then _ else _) = _
  rw [if_neg (show ¬ (((1 : Nat) : Int) > (text.size : Int) - pos) by omega)]
  show (match Sre.run code0 text 15 (min 4294967295 ((text.size : Int) - pos).toNat) pos 0 ((sn.add 24).add 13) with | .error why => _ | .ok (n, seen) => _) = _
  rw [em, e']
  show (if k < 1 then _ else _) = _
  rw [if_neg (by omega)]
  show (if wt + 1 + 0 > 16777216 then _ else _) = _
  rw [if_neg (by omega)]
  rfl
theorem st_at_yes (h : pos = text.size) : ∃ sn', (mk text 21 pos hd om st fr wt none sn).step = mk text 23 pos hd om st fr wt none sn' := by
  rw [step_exec rfl rfl lt21]
  have e : ops[(mk text 21 pos hd om st fr wt none sn).word 0]? = some .AT := rfl
  have ea : ∀ sn, (mk text 21 pos hd om st fr wt none sn).isAt 5 = .ok true := fun sn => by
    show Except.ok (pos == text.size || _) = _
    rw [h]; simp
  refine ⟨((sn.add 6).add (43 + 5)), ?_⟩
  unfold M.exec
  simp only [e]
  split
  · rename_i hq
    have hq2 := hq.symm.trans (ea (sn.add 6))
    cases hq2
  · rename_i hq
    have hq2 := hq.symm.trans (ea (sn.add 6))
    cases hq2
    rfl
theorem st_at_no (h : pos ≠ text.size) (h2 : text.getD pos 0 ≠ 10) : ∃ sn', (mk text 21 pos hd om st fr wt none sn).step = mk text 21 pos hd om st fr wt (some false) sn' := by
  rw [step_exec rfl rfl lt21]
  have e : ops[(mk text 21 pos hd om st fr wt none sn).word 0]? = some .AT := rfl
  have ea : ∀ sn, (mk text 21 pos hd om st fr wt none sn).isAt 5 = .ok false := fun sn => by
    show Except.ok (pos == text.size || (pos + 1 == text.size && text.getD pos 0 == 10)) = _
    rw [show (pos == text.size) = false by simpa using h, show (text.getD pos 0 == 10) = false by simpa using h2]; simp
  refine ⟨((sn.add 6).add (43 + 5)), ?_⟩
  unfold M.exec
  simp only [e]
  split
  · rename_i hq
    have hq2 := hq.symm.trans (ea (sn.add 6))
    cases hq2
  · rename_i hq
    have hq2 := hq.symm.trans (ea (sn.add 6))
    cases hq2
    rfl
theorem st_succ : ∃ sn', (mk text 23 pos hd om st fr wt none sn).step = mk text 23 pos pos om st fr wt (some true) sn' := by
  rw [step_exec rfl rfl lt23]
  have e : ops[(mk text 23 pos hd om st fr wt none sn).word 0]? = some .SUCCESS := rfl
  refine ⟨sn.add 1, ?_⟩
  unfold M.exec
  simp only [e]
  show (if (om && ((false && _) || (false && _))) = true then _ else _) = _
  rw [if_neg (by simp)]
  rfl
/-- back at the run: yes -/
theorem st_back_yes {pc p : Nat} {k : Int} {om' : Bool} : (mk text pc pos hd om st (G text p om' k :: fr) wt (some true) sn).step = mk text 11 p hd om' st fr (wt - 1) (some true) sn := rfl
theorem st_back_last {pc p : Nat} {om' : Bool} : (mk text pc pos hd om st (G text p om' 1 :: fr) wt (some false) sn).step = mk text 11 p hd om' st fr (wt - 1) (some false) sn := rfl
theorem st_back_less {pc p : Nat} {k : Nat} {om' : Bool} (hk : 1 ≤ k) (hw : wt ≤ 10) (hw2 : 1 ≤ wt) :
    (mk text pc pos hd om st (G text p om' ((k + 1 : Nat) : Int) :: fr) wt (some false) sn).step = mk text 21 (p - 1) (p - 1) om' st (G text (p - 1) om' k :: fr) wt none sn := by
  show (if ((k + 1 : Nat) : Int) - 1 < ((1 : Nat) : Int) then _ else _) = _
  rw [if_neg (by omega)]
  show (if wt - 1 + 1 + 0 > 16777216 then _ else _) = _
  rw [if_neg (by omega)]
  have e1 : wt - (1 + 0) + 1 + 0 = wt := by omega
  have e2 : ((k + 1 : Nat) : Int) - 1 = k := by omega
  show mk text 21 (p - 1) (p - 1) om' st (G text (p - 1) om' (((k + 1 : Nat) : Int) - 1) :: fr) (wt - (1 + 0) + 1 + 0) none sn = _
  rw [e1, e2]
def F0 (p : Nat) (om : Bool) : Sre.Frame := { wait := .nextStart, pc := 9, pos := p, outermost := om }
theorem st_found {pc p : Nat} {om' : Bool} : (mk text pc pos hd om st [F0 p om'] wt (some true) sn).step = mk text 9 p hd om' st [] (wt - 1) (some true) sn := rfl
theorem st_next {pc p : Nat} {om' : Bool} (h : p < text.size) (hw : wt ≤ 10) (hw2 : 1 ≤ wt) : (mk text pc pos hd om st [F0 p om'] wt (some false) sn).step = mk text 9 (p + 1) (p + 1) false (p + 1) [F0 (p + 1) false] wt none sn := by
  show (if p < text.size then _ else _) = _
  rw [if_pos h]
  show (if wt - 1 + 1 + 0 > 16777216 then _ else _) = _
  rw [if_neg (by omega)]
  have e1 : wt - (1 + 0) + 1 + 0 = wt := by omega
  show mk text 9 (p + 1) (p + 1) false (p + 1) [F0 (p + 1) false] (wt - (1 + 0) + 1 + 0) none sn = _
  rw [e1]
theorem st_never {pc p : Nat} {om' : Bool} (h : ¬ p < text.size) : (mk text pc pos hd om st [F0 p om'] wt (some false) sn).step = mk text 9 p hd om' st [] (wt - 1) (some false) sn := by
  show (if p < text.size then _ else _) = _
  rw [if_neg h]
  rfl
end
end Mine
end

section
open PySem
set_option Elab.async false
set_option maxRecDepth 100000
set_option maxHeartbeats 400000
namespace Mine
open PySem.Sre
def Ends (n : Nat) (m : M) (b : Bool) : Prop := (M.runFor n m).outcome = some (if b = true then .matched else .failed)
def EndsB (B : Nat) (m : M) (b : Bool) : Prop := ∃ n, n ≤ B ∧ Ends n m b
theorem EndsB.step {B : Nat} {m m1 : M} {b : Bool} (h0 : m.outcome = none) (h1 : m.step = m1) (h : EndsB B m1 b) : EndsB (B + 1) m b := by
  obtain ⟨n, hn, e⟩ := h
  refine ⟨n + 1, by omega, ?_⟩
  unfold Ends M.runFor
  rw [h0, h1]
  exact e
theorem EndsB.more {B B' : Nat} {m : M} {b : Bool} (h : EndsB B m b) (hb : B ≤ B') : EndsB B' m b := by
  obtain ⟨n, hn, e⟩ := h
  exact ⟨n, by omega, e⟩
section
variable {text : Array Nat} {pos hd : Nat} {om om' : Bool} {st : Nat} {fr : List Sre.Frame} {wt : Nat} {sn : Seen} {b : Bool} {B : Nat}
theorem ends_last {pc : Nat} : EndsB 1 (mk text pc pos hd om st [] wt (some b) sn) b := by
  refine ⟨1, Nat.le_refl _, ?_⟩
  cases b <;> rfl
theorem ends_true {pc q : Nat} : EndsB 2 (mk text pc pos hd om st [F0 q om'] wt (some true) sn) true := .step rfl st_found ends_last

/-- all ways on, once a start has failed -/
def Fails (text : Array Nat) (q B : Nat) (b : Bool) : Prop := ∀ pc pos hd om st om' sn, EndsB B (mk text pc pos hd om st [F0 q om'] 1 (some false) sn) b

theorem giveback {q : Nat} (hF : Fails text q B b) (hno : ∀ i, text.getD i 0 ≠ 10) : ∀ (j p : Nat) (hd : Nat) (om : Bool) (st : Nat) (om' om2 : Bool) (sn : Seen), 1 ≤ j → j ≤ p → p < text.size →
    EndsB (B + 2 * j) (mk text 21 p hd om st [G text p om' (j : Nat), F0 q om2] 2 none sn) b
  | 0, _, _, _, _, _, _, _, h, _, _ => absurd h (by omega)
  | 1, p, hd, om, st, om', om2, sn, _, _, hp => by
    obtain ⟨sn1, e1⟩ := st_at_no (text := text) (pos := p) (hd := hd) (om := om) (st := st) (fr := [G text p om' ((1 : Nat) : Int), F0 q om2]) (wt := 2) (sn := sn) (by omega) (hno p)
    refine EndsB.step (B := B + 1) rfl e1 (EndsB.step rfl st_back_last ?_)
    exact hF ..
  | j + 2, p, hd, om, st, om', om2, sn, _, hjp, hp => by
    obtain ⟨sn1, e1⟩ := st_at_no (text := text) (pos := p) (hd := hd) (om := om) (st := st) (fr := [G text p om' ((j + 2 : Nat) : Int), F0 q om2]) (wt := 2) (sn := sn) (by omega) (hno p)
    have ih := giveback hF hno (j + 1) (p - 1) (p - 1) om' st om' om2 sn1 (by omega) (by omega) (by omega)
    refine EndsB.step (B := B + 2 * (j + 1) + 1) rfl e1 (EndsB.step rfl (st_back_less (k := j + 1) (by omega) (by omega) (by omega)) ?_)
    exact ih

def okAt (text : Array Nat) (q : Nat) : Prop := q + 1 < text.size ∧ text.getD q 0 = 46 ∧ dn text (text.size - (q + 1)) (q + 1) = text.size - (q + 1)

theorem at_start (hno : ∀ i, text.getD i 0 ≠ 10) (hn : text.size ≤ 1000) : ∀ (d s hd : Nat) (om : Bool) (st : Nat) (om' : Bool) (sn : Seen) (b : Bool), s + d = text.size → (b = true ↔ ∃ q, s ≤ q ∧ okAt text q) →
    EndsB (2010 * (d + 1)) (mk text 9 s hd om st [F0 s om'] 1 none sn) b := by
  intro d
  induction d with
  | zero =>
    intro s hd om st om' sn b hs hb
    obtain ⟨sn1, e1⟩ := st_lit_no (text := text) (pos := s) (hd := hd) (om := om) (st := st) (fr := [F0 s om']) (wt := 1) (sn := sn) (by omega)
    have hbf : b = false := by
      cases b with
      | false => rfl
      | true =>
        obtain ⟨q, hq, ho, _⟩ := hb.mp rfl
        omega
    subst hbf
    exact EndsB.more (B := 3) (.step rfl e1 (.step rfl (st_never (by omega)) ends_last)) (by omega)
  | succ d ih =>
    intro s hd om st om' sn b hs hb
    have fails : ¬ okAt text s → Fails text s (2010 * (d + 1) + 1) b := by
      intro hno' pc pos hd om st om' sn
      refine EndsB.step rfl (st_next (by omega) (by omega) (by omega)) (ih (s + 1) _ _ _ _ _ b (by omega) ?_)
      rw [hb]
      constructor
      · rintro ⟨q, hq, ho⟩
        refine ⟨q, ?_, ho⟩
        rcases Nat.lt_or_ge s q with h | h
        · exact h
        · exact absurd ((Nat.le_antisymm hq h) ▸ ho) hno'
      · rintro ⟨q, hq, ho⟩
        exact ⟨q, by omega, ho⟩
    by_cases hl : text.getD s 0 = 46
    · obtain ⟨sn1, e1⟩ := st_lit_yes (text := text) (pos := s) (hd := hd) (om := om) (st := st) (fr := [F0 s om']) (wt := 1) (sn := sn) (by omega) hl
      have hle := dn_le (text := text) (text.size - (s + 1)) (s + 1)
      by_cases hk : dn text (text.size - (s + 1)) (s + 1) = 0
      · obtain ⟨sn2, e2⟩ := st_rep_no (text := text) (pos := s + 1) (hd := hd) (om := om) (st := st) (fr := [F0 s om']) (wt := 1) (sn := sn1) (by omega) hk hn
        have hF := fails (fun ho => by have := ho.2.2; have := ho.1; omega)
        exact EndsB.more (.step rfl e1 (.step rfl e2 (hF ..))) (by omega)
      · obtain ⟨k, hkk⟩ : ∃ k, dn text (text.size - (s + 1)) (s + 1) = k := ⟨_, rfl⟩
        rw [hkk] at hk hle
        have hk0 : 0 < k := Nat.pos_of_ne_zero hk
        have hs1 : s + 1 ≤ text.size := by omega
        have hs2 : s + 1 + k ≤ text.size := by omega
        obtain ⟨sn2, e2⟩ := st_rep_yes (text := text) (pos := s + 1) (hd := hd) (om := om) (st := st) (fr := [F0 s om']) (wt := 1) (sn := sn1) hs1 hkk hk0 hn (by decide)
        by_cases hfull : k = text.size - (s + 1)
        · have ho : okAt text s := ⟨by omega, hl, hkk.trans hfull⟩
          have hend : s + 1 + k = text.size := by omega
          have hbt : b = true := hb.mpr ⟨s, Nat.le_refl _, ho⟩
          subst hbt
          obtain ⟨sn3, e3⟩ := st_at_yes (text := text) (pos := s + 1 + k) (hd := s + 1 + k) (om := om) (st := st) (fr := [G text (s + 1 + k) om k, F0 s om']) (wt := 1 + 1) (sn := sn2) hend
          obtain ⟨sn4, e4⟩ := st_succ (text := text) (pos := s + 1 + k) (hd := s + 1 + k) (om := om) (st := st) (fr := [G text (s + 1 + k) om k, F0 s om']) (wt := 1 + 1) (sn := sn3)
          exact EndsB.more (.step rfl e1 (.step rfl e2 (.step rfl e3 (.step rfl e4 (.step rfl st_back_yes ends_true))))) (by omega)
        · have hF := fails (fun ho => hfull (hkk.symm.trans ho.2.2))
          have hlt : s + 1 + k < text.size := by omega
          have hg := giveback hF hno k (s + 1 + k) (s + 1 + k) om st om om' sn2 hk0 (by omega) hlt
          have hB : 2010 * (d + 1) + 1 + 2 * k + 1 + 1 ≤ 2010 * (d + 1 + 1) := by omega
          exact EndsB.more (.step rfl e1 (.step rfl e2 hg)) hB
    · obtain ⟨sn1, e1⟩ := st_lit_no (text := text) (pos := s) (hd := hd) (om := om) (st := st) (fr := [F0 s om']) (wt := 1) (sn := sn) (fun h => hl h.2)
      have hF := fails (fun ho => hl ho.2.1)
      exact EndsB.more (.step rfl e1 (hF ..)) (by omega)

theorem search_ends (hno : ∀ i, text.getD i 0 ≠ 10) (hn : text.size ≤ 1000) (hb : b = true ↔ ∃ q, okAt text q) : EndsB 3000000 (forSearch code0 text 0 0 text.size false) b := by
  by_cases h2 : text.size < 2
  · have hbf : b = false := by
      cases b with
      | false => rfl
      | true =>
        obtain ⟨q, ho, _⟩ := hb.mp rfl
        omega
    subst hbf
    have e : forSearch code0 text 0 0 text.size false = ({ code := code0, text := text, lim := text.size, start := 0, pc := 9, pos := 0, handed := 0, marks := #[], seen := ({} : Seen).add 14 } : M).say false := by
      unfold forSearch
      show (if (decide (0 > text.size) || decide (text.size - 0 < 2)) = true then _ else _) = _
      rw [if_pos (by simp; omega)]
      rfl
    rw [e]
    exact ⟨1, by omega, rfl⟩
  · have e : forSearch code0 text 0 0 text.size false = mk text 9 0 0 true 0 [F0 0 true] 1 none (({} : Seen).add 14) := by
      unfold forSearch
      show (if (decide (0 > text.size) || decide (text.size - 0 < 2)) = true then _ else _) = _
      rw [if_neg (by simp; omega)]
      rfl
    rw [e]
    exact EndsB.more (at_start hno hn text.size 0 _ _ _ _ _ b (by omega) (by rw [hb]; simp)) (by omega)
end
end Mine
end

section
open PySem PySem.W PyProof.Rows PySem.Calls
set_option Elab.async false
set_option maxRecDepth 100000
set_option maxHeartbeats 0
namespace Mine
theorem slot_sre : Slot "re.Pattern" "search" "re.Pattern.search" :=
  .of (owner := "re.Pattern") (n := "search") (by rw [typeLookup_type, builtinLookup_eq_fast]; kernel_rfl) (by decide +kernel) (by decide +kernel) (by decide +kernel)
    (by first | exact .inl (by decide +kernel) | exact .inr (by decide +kernel)) (by rw [isSubtype_type]; kernel_rfl)
theorem type_sre : typeOf (.builtin "re.Pattern.search") = pure (.type "method_descriptor") := by show builtinType _ = _; rw [builtinType_eq_fast]; kernel_rfl
theorem entry_sre : entryFor table "re.Pattern.search" = some Builtin.«re.Pattern.search» := entryFor_of_tree (by kernel_rfl)
theorem args_sre (a b : Value) : argsOk "re.Pattern.search" ⟨[a, b], []⟩ := by unfold argsOk; kernel_rfl
theorem pa_sre : PlainAttrs "re.Pattern" :=
  ⟨⟨"object.__getattribute__", by rw [typeLookup_type, builtinLookup_eq_fast]; kernel_rfl, by decide +kernel⟩, by rw [typeLookup_type, builtinLookup_eq_fast]; kernel_rfl⟩
theorem match_nobool : typeLookup (.type "re.Match") "__bool__" = pure none := by rw [typeLookup_type, builtinLookup_eq_fast]; kernel_rfl
theorem match_nolen : typeLookup (.type "re.Match") "__len__" = pure none := by rw [typeLookup_type, builtinLookup_eq_fast]; kernel_rfl

abbrev patObj : Obj := { cls := Value.type "re.Pattern", data := Data.fields #[Value.str (Str.ofString "\\.\\d+$") 292, Value.int 256 319, Value.int 0 0, Value.none, Value.none, Value.ref 42, Value.int 0 0] }
abbrev codeObj : Obj := { cls := Value.type "tuple", data := Data.seq #[Value.int 14 0, Value.int 8 0, Value.int 1 0, Value.int 2 0, Value.int 4294967295 0, Value.int 1 0,
              Value.int 1 0, Value.int 46 0, Value.int 0 0, Value.int 16 0, Value.int 46 0, Value.int 24 0,
              Value.int 9 0, Value.int 1 0, Value.int 4294967295 0, Value.int 13 0, Value.int 4 0, Value.int 8 0,
              Value.int 0 0, Value.int 0 0, Value.int 1 0, Value.int 6 0, Value.int 5 0, Value.int 1 0] }
section
variable {prog : Program} {w : World} {A : Around} {s : Shared} {E : Value → Shared → Prop}

theorem truthy_match {a : Addr} {ob : Obj} {Q : Bool → Shared → Prop} (ha : s.heap.get? a = some ob) (hc : ob.cls = .type "re.Match") (h : ∀ tk, Q true { s with toks := tk }) : wpAny (model prog w) A (truthy (.ref a)) Q E s := by
  have hT : s.TypeIs (.ref a) "re.Match" := ⟨_, ha, hc⟩
  have h0 := h s.toks
  have b1 := match_nobool
  have b2 := match_nolen
  repeat (any_goals (first | assumption | wp_step))

theorem runFor_more : ∀ (n k : Nat) (m : Sre.M) (o : Sre.Outcome), (Sre.M.runFor n m).outcome = some o → Sre.M.runFor (n + k) m = Sre.M.runFor n m
  | 0, k, m, o, h => by
    have h' : m.outcome = some o := h
    cases k with
    | zero => rfl
    | succ k => rw [Nat.zero_add]; unfold Sre.M.runFor; rw [h']; rfl
  | n + 1, k, m, o, h => by
    rw [show n + 1 + k = (n + k) + 1 by omega]
    unfold Sre.M.runFor at h ⊢
    by_cases hm : m.outcome.isSome = true
    · rw [if_pos hm, if_pos hm]
    · rw [if_neg hm] at h ⊢
      rw [if_neg hm]
      exact runFor_more n k m.step o h
theorem runFor_add : ∀ (n k : Nat) (m : Sre.M), Sre.M.runFor (n + k) m = Sre.M.runFor k (Sre.M.runFor n m)
  | 0, k, m => by rw [Nat.zero_add]; rfl
  | n + 1, k, m => by
    rw [show n + 1 + k = (n + k) + 1 by omega]
    by_cases hm : m.outcome.isSome = true
    · have e1 : Sre.M.runFor (n + 1) m = m := by unfold Sre.M.runFor; rw [if_pos hm]
      rw [e1]
      cases k with
      | zero => unfold Sre.M.runFor; rw [if_pos hm]
      | succ k => unfold Sre.M.runFor; rw [if_pos hm, if_pos hm]
    · have e1 : Sre.M.runFor (n + 1) m = Sre.M.runFor n m.step := by conv => lhs; unfold Sre.M.runFor; rw [if_neg hm]
      have e2 : Sre.M.runFor ((n + k) + 1) m = Sre.M.runFor (n + k) m.step := by conv => lhs; unfold Sre.M.runFor; rw [if_neg hm]
      rw [e1, e2]
      exact runFor_add n k m.step

theorem drive {M : Model} {Q : Sre.M → Shared → Prop} : ∀ (turns n : Nat) (m : Sre.M) (o : Sre.Outcome), n ≤ 4 * turns → 0 < turns → (Sre.M.runFor n m).outcome = some o → (∀ m', m'.outcome = some o → Q m' s) →
    wpAny M A (Builtin.Re.reDrive turns m) Q E s
  | 0, n, m, o, h, h0, _, _ => absurd h0 (by omega)
  | turns + 1, n, m, o, h, _, hr, hQ => by
    unfold Builtin.Re.reDrive
    by_cases hs : (Sre.M.runFor 4 m).outcome.isSome = true
    · show wpAny M A (if (Sre.M.runFor 4 m).outcome.isSome = true then _ else _) _ _ _
      rw [if_pos hs]
      refine wpAny_pure (hQ _ ?_)
      obtain ⟨o', ho'⟩ := Option.isSome_iff_exists.mp hs
      have e1 := runFor_more 4 n m o' ho'
      have e2 := runFor_more n 4 m o hr
      rw [Nat.add_comm] at e2
      show (Sre.M.runFor 4 m).outcome = some o
      rw [← e1, e2]
      exact hr
    · show wpAny M A (if (Sre.M.runFor 4 m).outcome.isSome = true then _ else _) _ _ _
      rw [if_neg hs]
      refine wpAny_bind (wpAny_rule ?_)
      have hn : 4 < n := by
        rcases Nat.lt_or_ge 4 n with q | q
        · exact q
        · exfalso
          obtain ⟨k, hk⟩ : ∃ k, 4 = n + k := ⟨4 - n, by omega⟩
          rw [hk, runFor_more n k m o hr, hr] at hs
          exact hs rfl
      obtain ⟨k, rfl⟩ : ∃ k, n = 4 + k := ⟨n - 4, by omega⟩
      rw [runFor_add] at hr
      exact drive turns k _ o (by omega) (by omega) hr hQ
theorem wp_rules {M : Model} {Q : PUnit → Shared → Prop} {p : Nat → Bool} {f : Nat → String} (h : Q () s) : ∀ l : List Nat, wpAny M A (forIn l PUnit.unit fun i _ => if p i = true then do rule (f i); pure (ForInStep.yield PUnit.unit) else pure (ForInStep.yield PUnit.unit)) Q E s
  | [] => wpAny_pure h
  | a :: r => by
    rw [List.forIn_cons]
    refine wpAny_bind ?_
    by_cases hp : p a = true
    · rw [if_pos hp]
      exact wpAny_bind (wpAny_rule (wpAny_pure (wp_rules h r)))
    · rw [if_neg hp]
      exact wpAny_pure (wp_rules h r)

theorem run_end {M : Model} {m : Sre.M} {b : Bool} {Q : Option Sre.M → Shared → Prop} (he : EndsB 3000000 m b) (hy : b = true → ∀ m', Q (some m') s) (hn : b = false → Q none s) : wpAny M A (Builtin.Re.reRunToEnd m) Q E s := by
  obtain ⟨n, hn', he⟩ := he
  unfold Builtin.Re.reRunToEnd
  refine wpAny_bind (drive (2 ^ 64) n m _ (by omega) (by omega) he fun m' hm' => ?_)
  refine wpAny_bind (wp_rules ?_ _)
  rw [hm']
  cases b with
  | true => exact wpAny_pure (hy rfl m')
  | false => exact wpAny_pure (hn rfl)
abbrev codeVals : Array Value := #[Value.int 14 0, Value.int 8 0, Value.int 1 0, Value.int 2 0, Value.int 4294967295 0, Value.int 1 0,
              Value.int 1 0, Value.int 46 0, Value.int 0 0, Value.int 16 0, Value.int 46 0, Value.int 24 0,
              Value.int 9 0, Value.int 1 0, Value.int 4294967295 0, Value.int 13 0, Value.int 4 0, Value.int 8 0,
              Value.int 0 0, Value.int 0 0, Value.int 1 0, Value.int 6 0, Value.int 5 0, Value.int 1 0]
theorem code_is : Array.map (fun x => x.toNat) (Array.map Builtin.Re.reRawOf codeVals) = code0 := by decide +kernel
theorem meets_search {x : Str} {t : Tok} {b : Bool} (hb : b = true ↔ ∃ q, okAt x.cps q) (hno : ∀ i, x.cps.getD i 0 ≠ 10) (hn : x.cps.size ≤ 1000) :
    Meets (Builtin.«re.Pattern.search» ⟨[.ref 43, .str x t], []⟩) (fun _ R s => s.heap.get? 43 = some patObj ∧ s.heap.get? 42 = some codeObj ∧
      (b = true → ∀ h' a ob, Kp s.heap h' → h'.get? a = some ob → ob.cls = .type "re.Match" → R (.ok (.ret (.ref a))) { s with heap := h' }) ∧ (b = false → R (.ok (.ret .none)) s)) := by
  intro prog w A R s hs
  obtain ⟨h43, h42, hy, hno'⟩ := hs
  have hT : s.TypeIs (.ref 43) "re.Pattern" := ⟨_, h43, rfl⟩
  have he := search_ends (b := b) hno hn hb
  have e1 : min (0 : Int).toNat x.cps.size = 0 := by simp
  have e2 : min ((2 : Int) ^ 63 - 1).toNat x.cps.size = x.cps.size := by omega
  have he' : EndsB 3000000 (Sre.forSearch code0 x.cps 0 (min (0 : Int).toNat x.cps.size) (min ((2 : Int) ^ 63 - 1).toNat x.cps.size) false) b := by rw [e1, e2]; exact he
  repeat (any_goals (first | assumption | ((with_reducible show wpAny _ _ (Builtin.Re.reRunToEnd _) _ _ _); refine run_end (b := b) ?he ?_ ?_) | wp_step))
  case he =>
    show EndsB 3000000 (Sre.forSearch (Array.map (fun x => x.toNat) (Array.map Builtin.Re.reRawOf codeVals)) x.cps 0 (min (0 : Int).toNat x.cps.size) (min ((2 : Int) ^ 63 - 1).toNat x.cps.size) false) b
    rw [code_is]
    exact he'
  · intro hbt m'
    have hy' := hy hbt
    repeat (any_goals (first | assumption | wp_step))
    exact hy' _ _ _ (fun b o e => Heap.get?_push_of_some _ (Heap.get?_push_of_some _ e)) (Heap.get?_push_size _ rfl) rfl
  · intro hbf
    exact wpAny_pure (hno' hbf)
theorem search_rule {x : Str} {t : Tok} {b : Bool} {Q : Value → Shared → Prop} (hb : b = true ↔ ∃ q, okAt x.cps q) (hno : ∀ i, x.cps.getD i 0 ≠ 10) (hn : x.cps.size ≤ 1000)
    (h43 : s.heap.get? 43 = some patObj) (h42 : s.heap.get? 42 = some codeObj)
    (hy : b = true → ∀ h' a ob, Kp s.heap h' → h'.get? a = some ob → ob.cls = .type "re.Match" → Q (.ref a) { s with heap := h' }) (hno' : b = false → Q .none s) :
    wpAny (model prog w) A (call (.builtin "re.Pattern.search") [.ref 43, .str x t]) Q E s :=
  call_meets slot_sre ⟨_, h43, rfl⟩ entry_sre (args_sre _ _) (meets_search hb hno hn) ⟨h43, h42, hy, hno'⟩
theorem search_meth {pl : Sem Bool} {M : Model} {Q : Value × List Value → Shared → Prop} (h43 : s.heap.get? 43 = some patObj) (h : Q (.builtin "re.Pattern.search", [.ref 43]) s) :
    wpAny M A (getMethod (.ref 43) "search" pl) Q E s :=
  getMethod_builtin ⟨_, h43, rfl⟩ pa_sre slot_sre type_sre (fun a e => by cases e; exact ⟨_, h43, rfl⟩) h
end
end Mine
end

section
open PySem PySem.W PyProof.Rows
set_option Elab.async false
set_option maxRecDepth 100000
set_option maxHeartbeats 0
namespace Mine
section
variable {prog : Program} {w : World} {A : Around} {s : Shared} {R : Result → Shared → Prop}
theorem in43 {h : Heap} (X : (hd.heap_39 w.params).In h) : h.get? 43 = some patObj := X _ _ (by k_is)
theorem in42 {h : Heap} (X : (hd.heap_39 w.params).In h) : h.get? 42 = some codeObj := X _ _ (by k_is)
local macro_rules | `(tactic| size_fits) => `(tactic| (simp only [sizeLine]; omega))
local macro_rules | `(tactic| walk_at "getMethod ref") => `(tactic| ((with_reducible show wpAny _ _ (getMethod (Value.ref 43) _ _) _ _ _); (refine search_meth (in43 (Frag.In.keeps (by assumption) (Fr.keep (by assumption)))) ?_)))
/-- a text that is_HDN decides by the expression alone; b: a dot and digits at its end -/
structure Hdn (x : Str) (b : Bool) : Prop where
  len : x.length ≤ 1000
  ends : b = true ↔ ∃ q, okAt x.cps q
  no10 : ∀ i, x.cps.getD i 0 ≠ 10
  ne : (x == Str.ofString "") = false
  first : (Txt.item x 0 == Str.ofString ".") = false
  last : (Txt.item x (-1) == Str.ofString ".") = false
def toldV (b1 : Bool) (i : Int) (b2 : Bool) : Bool := !b1 && (decide (i ≠ -1 ∧ i ≠ 0) && !b2)
theorem told1 {b1 b2 : Bool} {i : Int} (h : b1 = true) : toldV b1 i b2 = false := by subst h; rfl
theorem told2 {b1 b2 : Bool} {i : Int} (h : i = -1) : toldV b1 i b2 = false := by subst h; cases b1 <;> rfl
theorem told3 {b1 b2 : Bool} {i : Int} (h : i = 0) : toldV b1 i b2 = false := by subst h; cases b1 <;> rfl
theorem told4 {b1 b2 : Bool} {i : Int} (h : b2 = true) : toldV b1 i b2 = false := by subst h; unfold toldV; simp
theorem told5 {b1 b2 : Bool} {i : Int} (h : b1 = false) (h2 : i ≠ -1) (h3 : i ≠ 0) (h4 : b2 = false) : toldV b1 i b2 = true := by subst h; subst h4; unfold toldV; simp [h2, h3]
theorem tf {b : Bool} (h : b = true) (h' : b = false) : False := by rw [h] at h'; cases h'

theorem c_is_HDN {x : Str} {t : Tok} {b : Bool} (H : Hdn x b) (o : Ok A 1) (G : Gd w s.heap) (h : ∀ h' tk, Kp s.heap h' → R (.ok (.ret (.bool (!b)))) { s with heap := h', toks := tk }) :
    codeAny (model prog w) A (.call (.ref 50) ⟨[.str x t], []⟩) R s := by
  obtain ⟨d0, f0, u0, rfl⟩ := o.form
  refine enter (binds := [("text", .str x t)]) G o.room (by k_is) (by k_is) (BindsTo.of_eq rfl) (locs rfl) ?_
  intro L h₁ F N
  have X := G.K
  obtain ⟨mean, mg, mb, T⟩ := G.T
  have hx := H.len
  repeat' (first | walk1 | (dsimp only; walk1))
  refine search_rule H.ends H.no10 hx (in43 (X.keeps F.keep)) (in42 (X.keeps F.keep)) ?_ ?_
  · intro hbt h' a ob k ha hc
    replace F := Fr.st F k
    replace N := News.st N k
    refine truthy_match ha hc ?_
    intro tk
    repeat' (first | walk1 | (dsimp only; walk1))
    subst hbt
    exact h _ _ F.keep
  · intro hbf
    repeat' (first | walk1 | (dsimp only; walk1))
    · exact (tf (by assumption) H.ne).elim
    · exact (tf (by assumption) H.first).elim
    · exact (tf (by assumption) H.last).elim
    · subst hbf
      exact h _ _ F.keep

local macro_rules | `(tactic| walk_at "call ref") => `(tactic| ((with_reducible show wpAny _ _ (call (Value.ref 50) [Value.str _ _]) _ _ _); (refine wpAny_call (c_is_HDN (by assumption) (Ok.deeper (by assumption)) (Gd.keeps (by assumption) (Fr.keep (by assumption))) ?_)); intro h' tk' k'; (rename Fr _ _ _ _ => kF); (rename News _ _ _ _ => kN); replace kF := Fr.st kF k'; replace kN := News.st kN k'; clear k'; (try dsimp only)))
theorem c_domain_match {x y : Str} {t u : Tok} {b1 b2 : Bool} (hx : x.length ≤ 300) (hy : y.length ≤ 300) (H1 : Hdn (Txt.lower x) b1) (H2 : Hdn (Txt.slice (Txt.lower y) (some 1) none) b2)
    (hne : (Txt.lower x == Txt.lower y) = false) (hdot : Txt.startswith (Txt.lower y) (Str.ofString ".") = true) (o : Ok A 2) (G : Gd w s.heap)
    (h : ∀ h' tk, Kp s.heap h' → R (.ok (.ret (.bool (toldV b1 (Txt.rfind (Txt.lower x) (Txt.lower y)) b2))))  { s with heap := h', toks := tk }) :
    codeAny (model prog w) A (.call (.ref 57) ⟨[.str x t, .str y u], []⟩) R s := by
  obtain ⟨d0, f0, u0, rfl⟩ := o.form
  refine enter (binds := [("A", .str x t), ("B", .str y u)]) G o.room (by k_is) (by k_is) (BindsTo.of_eq rfl) (locs rfl) ?_
  intro L h₁ F N
  have X := G.K
  obtain ⟨mean, mg, mb, T⟩ := G.T
  have hx := H1.len
  repeat' (first | walk1 | (dsimp only; walk1))
  · have e := told1 (b1 := b1) (b2 := b2) (i := Txt.rfind (Txt.lower x) (Txt.lower y)) (by assumption)
    rw [e] at h
    exact h _ _ (Fr.keep (by assumption))
  · have e := told2 (b1 := b1) (b2 := b2) (i := Txt.rfind (Txt.lower x) (Txt.lower y)) (by assumption)
    rw [e] at h
    exact h _ _ (Fr.keep (by assumption))
  · have e := told3 (b1 := b1) (b2 := b2) (i := Txt.rfind (Txt.lower x) (Txt.lower y)) (by assumption)
    rw [e] at h
    exact h _ _ (Fr.keep (by assumption))
  · have e := told4 (b1 := b1) (b2 := b2) (i := Txt.rfind (Txt.lower x) (Txt.lower y)) (by assumption)
    rw [e] at h
    exact h _ _ (Fr.keep (by assumption))
  · have e := told5 (b1 := b1) (b2 := b2) (i := Txt.rfind (Txt.lower x) (Txt.lower y)) (by assumption) (by assumption) (by assumption) (by assumption)
    rw [e] at h
    exact h _ _ (Fr.keep (by assumption))
end
end Mine
end

section
open PySem PySem.W PyProof.Rows
set_option Elab.async false
set_option maxRecDepth 100000
set_option maxHeartbeats 0
namespace Mine
section
variable {prog : Program} {w : World} {A : Around} {s : Shared} {R : Result → Shared → Prop}
local macro_rules | `(tactic| size_fits) => `(tactic| (simp only [sizeLine]; omega))
def endsV (ws : List Str) : Bool := decide (1 < (ws.length : Int)) && (ws.getD (-1 + (ws.length : Int)).toNat Str.empty == Str.ofString "77")
theorem endsV_a {ws : List Str} (h : 1 < (ws.length : Int)) : endsV ws = (ws.getD (-1 + (ws.length : Int)).toNat Str.empty == Str.ofString "77") := by unfold endsV; rw [decide_eq_true h, Bool.true_and]
theorem endsV_b {ws : List Str} (h : ¬ 1 < (ws.length : Int)) : endsV ws = decide (1 < (ws.length : Int)) := by unfold endsV; rw [decide_eq_false h, Bool.false_and]
theorem c_ends {a : Addr} {vs : List Value} {ws : List Str} (hl : s.heap.IsList a vs.toArray) (hv : StrsAre vs ws) (hn : ws.length ≤ 20) (hpos : 0 < ws.length) (o : Ok A 1) (G : Gd w s.heap)
    (h : ∀ h' tk, Kp s.heap h' → R (.ok (.ret (.bool (endsV ws)))) { s with heap := h', toks := tk }) :
    codeAny (model prog w) A (.call (.ref 184) ⟨[.ref a], []⟩) R s := by
  obtain ⟨d0, f0, u0, rfl⟩ := o.form
  refine enter (binds := [("row", .ref a)]) G o.room (by k_is) (by k_is) (BindsTo.of_eq rfl) (locs rfl) ?_
  intro L h₁ F N
  have X := G.K
  obtain ⟨mean, mg, mb, T⟩ := G.T
  repeat' (first | walk1 | (dsimp only; walk1))
  all_goals (try dsimp only)
  · rw [endsV_a (by assumption)] at h
    exact h _ _ F.keep
  · rw [endsV_b (by assumption)] at h
    exact h _ _ F.keep



def hitAt (ws ds : List Str) (i : Nat) : Bool := decide ((ws.drop (1 + i)).take (ds.length - 1) = ds.take (ds.length - 1)) && Txt.startswith (ws.getD (i + ds.length) Str.empty) (ds.getD (ds.length - 1) Str.empty)
def liesV (ws ds : List Str) : Bool := (List.range (ws.length - ds.length)).any (hitAt ws ds)
theorem hit_of {ws ds : List Str} {i : Nat} {b : Bool} (hpos : 0 < ds.length) (h1 : (ws.drop (1 + i)).take (ds.length - 1) = ds.take (ds.length - 1))
    (h2 : Txt.startswith (ws.getD (1 + (i : Int) + ds.length - 1).toNat Str.empty) (ds.getD (-1 + (ds.length : Int)).toNat Str.empty) = b) : hitAt ws ds i = b := by
  unfold hitAt
  rw [show (1 + (i : Int) + ds.length - 1).toNat = i + ds.length by omega, show (-1 + (ds.length : Int)).toNat = ds.length - 1 by omega] at h2
  rw [h1, h2]; simp
theorem hit_ne {ws ds : List Str} {i : Nat} (h1 : ¬ (ws.drop (1 + i)).take (ds.length - 1) = ds.take (ds.length - 1)) : hitAt ws ds i = false := by
  unfold hitAt
  rw [decide_eq_false h1]; rfl
theorem c_lies {a b : Addr} {vs us : List Value} {ws ds : List Str} (hl : s.heap.IsList a vs.toArray) (hv : StrsAre vs ws) (hl2 : s.heap.IsList b us.toArray) (hv2 : StrsAre us ds) (rw1 : Row ws) (rw2 : Row ds) (o : Ok A 1) (G : Gd w s.heap)
    (h : ∀ h' tk, Kp s.heap h' → R (.ok (.ret (.bool (liesV ws ds)))) { s with heap := h', toks := tk }) :
    codeAny (model prog w) A (.call (.ref 191) ⟨[.ref a, .ref b], []⟩) R s := by
  obtain ⟨d0, f0, u0, rfl⟩ := o.form
  refine enter (binds := [("whole", .ref a), ("part", .ref b)]) G o.room (by k_is) (by k_is) (BindsTo.of_eq rfl) (locs rfl) ?_
  intro L h₁ F N
  have X := G.K
  obtain ⟨mean, mg, mb, T⟩ := G.T
  have hn := rw1.n
  have hn2 := rw2.n
  have hpos2 := rw2.pos
  have hvl := hv.len_eq
  have hvl2 := hv2.len_eq
  repeat' ((fail_if_success (with_reducible show wpAny _ _ (pyIter _) _ _ _)); first | walk1 | (dsimp only; walk1))
  dsimp only
  rename IsRange _ _ _ _ _ _ _ _ => hR
  rename Fr _ _ _ _ => F1
  rename News _ _ _ _ => N1
  refine iterR_kv [Str.ofString "last"] (fun i kv news' => kv = [] ∧ news' = [] ∧ ∀ q, q < i → hitAt ws ds q = false) rfl hR (by omega) (by omega) (by omega) (by omega) F1 N1 ⟨[], ⟨rfl, rfl, by simp⟩, by simp, by simp⟩ ?_ ?_
  · rintro i t' kv u news₁ hh tk own I hi ⟨rfl, rfl, hno⟩ hoff hI F2 N2 _
    clear F1 N1 hR
    repeat' ((fail_if_success (with_reducible show wpAny _ _ (subscriptTail _ _ _ _) _ _ _)); first | walk1 | (dsimp only; walk1))
    rename Fr _ _ _ _ => F3
    rename News _ _ _ _ => N3
    refine slice_list (s := ⟨_, _, _, _, _⟩) F3 N3 (F3.lst hl) (.int _ _) (.int _ _) ?_ (hsz := by simp [sizeLine]; omega)
    intro h4 F4 N4
    clear F3 N3
    rw [pick_run (by omega) (by omega) (by omega)] at N4
    repeat' ((fail_if_success (with_reducible show wpAny _ _ (subscriptTail _ _ _ _) _ _ _)); first | walk1 | (dsimp only; walk1))
    refine slice_list (s := ⟨_, _, _, _, _⟩) F4 N4 (F4.lst hl2) .none (.int _ _) ?_ (hsz := by simp [sizeLine]; omega)
    intro h5 F5 N5
    clear F4 N4
    rw [pick_butlast] at N5
    have e1 : (1 + (i : Int)).toNat = 1 + i := by omega
    have e2 : (1 + (i : Int) + ds.length - 1).toNat - (1 + i) = ds.length - 1 := by omega
    rw [e1, e2, hvl2] at N5
    have hvS := (hv.drop' (1 + i)).take' (ds.length - 1)
    have hvD := StrsAre.take' (by assumption : StrsAre us ds) (ds.length - 1)
    refine eq_strs (News.isList N5 (by k_mem)) (News.isList N5 (by k_mem)) hvS hvD (fun x hx => rw1.ok x (List.mem_of_mem_drop (List.mem_of_mem_take hx))) (fun x hx => rw2.ok x (List.mem_of_mem_take hx)) (by have := o.u; simp only [Around.deeper_units, cLine]; dsimp only at this; omega) ?_
    clear hvS hvD
    dsimp only
    repeat' (first | walk1 | (dsimp only; walk1))
    · have e := hit_of hpos2 (by assumption) (by assumption)
      have e2 : liesV ws ds = true := by
        unfold liesV
        rw [List.any_eq_true]
        exact ⟨i, List.mem_range.mpr (by omega), e⟩
      rw [e2] at h
      exact h _ _ F5.keep
    · have e := hit_of hpos2 (by assumption) (by assumption)
      have hno' : ∀ q, q < i + 1 → hitAt ws ds q = false := fun q hq => by
        rcases Nat.lt_or_ge q i with h' | h'
        · exact hno q h'
        · rw [show q = i by omega]; exact e
      refine ⟨_, _, _, [], rfl, by assumption, fun p hp => N5 p (.tail _ (.tail _ hp)), hoff, [], ⟨rfl, rfl, hno'⟩, by simp, ?_⟩
      simp +contextual [mset, mput]
    · have e := hit_ne (by assumption)
      have hno' : ∀ q, q < i + 1 → hitAt ws ds q = false := fun q hq => by
        rcases Nat.lt_or_ge q i with h' | h'
        · exact hno q h'
        · rw [show q = i by omega]; exact e
      refine ⟨_, _, _, [], rfl, by assumption, fun p hp => N5 p (.tail _ (.tail _ hp)), hoff, [], ⟨rfl, rfl, hno'⟩, by simp, ?_⟩
      simp +contextual [mset, mput]
  · rintro kv u news₁ hh tk ⟨rfl, rfl, hno⟩ F2 N2
    clear F1 N1 hR
    repeat' (first | walk1 | (dsimp only; walk1))
    have e : liesV ws ds = false := by
      unfold liesV
      rw [List.any_eq_false]
      intro q hq
      rw [hno q (by have := List.mem_range.mp hq; omega)]
      decide
    rw [e] at h
    exact h _ _ F2.keep
end
end Mine
end

section
open PySem PySem.W PyProof.Rows
set_option Elab.async false
set_option maxRecDepth 100000
set_option maxHeartbeats 0
namespace Mine
section
variable {prog : Program} {w : World} {A : Around} {s : Shared} {R : Result → Shared → Prop}
local macro_rules | `(tactic| size_fits) => `(tactic| (simp only [sizeLine]; omega))
local macro_rules | `(tactic| walk_at "call ref") => `(tactic| ((with_reducible show wpAny _ _ (call (Value.ref 165) [Value.str _ _]) _ _ _); (refine wpAny_call (c_dirname (by assumption) (Ok.deeper (by assumption)) (Gd.keeps (by assumption) (Fr.keep (by assumption))) ?_)); intro h' tk' t' k'; (rename Fr _ _ _ _ => kF); (rename News _ _ _ _ => kN); replace kF := Fr.st kF k'; replace kN := News.st kN k'; clear k'; (try dsimp only)))
theorem tf2 {b : Bool} (h : b = true) (h' : b = false) : False := by rw [h] at h'; cases h'
theorem path_len {ls : List Str} (hv : ∀ b ∈ ls, b ∈ vocab) : (pathOf ls).length ≤ 1 + 6 * ls.length := by
  rw [← lc_len]
  by_cases hn : ls = []
  · subst hn; decide +kernel
  · rw [lc_path hv hn]
    have key : ∀ l : List Str, (∀ b ∈ l, b ∈ vocab) → (slashed l).length ≤ 6 * l.length := by
      intro l
      induction l with
      | nil => intro _; simp [slashed]
      | cons a r ih =>
        intro h
        have h1 := vocab_len a (h a (List.mem_cons_self ..))
        have h2 := ih fun b hb => h b (List.mem_cons_of_mem _ hb)
        have e : slashed (a :: r) = (47 :: lc a) ++ slashed r := by simp [slashed]
        rw [e, List.length_append, List.length_cons, lc_len, List.length_cons]
        omega
    have := key ls hv
    omega
theorem path_root {ls : List Str} (hv : ∀ b ∈ ls, b ∈ vocab) (h : pathOf ls = Str.ofString "/") : ls = [] := by
  by_cases hn : ls = []
  · exact hn
  · obtain ⟨A, c, e, hc⟩ := slashed_last hv hn
    have := lc_path hv hn
    rw [h, lc_slash, e] at this
    cases A with
    | nil => simp at this; exact absurd this.symm hc
    | cons a r => simp at this
/-- the fronts found, once the front at hand has m labels -/
def frs (ls : List Str) (m : Nat) : List Str := (List.range (ls.length - 1 - m)).map fun i => pathOf (ls.take (ls.length - 1 - i))
theorem frs_next {ls : List Str} {m : Nat} (h : m + 1 ≤ ls.length - 1) : frs ls m = frs ls (m + 1) ++ [pathOf (ls.take (m + 1))] := by
  unfold frs
  rw [show ls.length - 1 - m = (ls.length - 1 - (m + 1)) + 1 by omega, List.range_succ, List.map_append]
  congr 1
  simp only [List.map_cons, List.map_nil]
  rw [show ls.length - 1 - (ls.length - 1 - (m + 1)) = m + 1 by omega]
theorem take_snoc {ls : List Str} {m : Nat} (h : m < ls.length) : ∃ l, ls.take (m + 1) = ls.take m ++ [l] := ⟨ls[m], by rw [List.take_add_one]; simp [h]⟩
theorem dir_take {ls : List Str} {m : Nat} (hv : ∀ b ∈ ls, b ∈ vocab) (h : m < ls.length) : dirV (pathOf (ls.take (m + 1))) = pathOf (ls.take m) := by
  obtain ⟨l, e⟩ := take_snoc h
  rw [e]
  exact dir_path (by rw [← e]; exact fun b hb => hv b (List.mem_of_mem_take hb))

theorem c_fronts {ls : List Str} {t : Tok} (r : Row ls) (o : Ok A 3) (G : Gd w s.heap)
    (h : ∀ h' tk a vs c, Kp s.heap h' → s.heap.get? a = none → h'.get? a = some (listOf (List.toArray vs) c) → StrsAre vs (frs ls 0) → R (.ok (.ret (.ref a))) { s with heap := h', toks := tk }) :
    codeAny (model prog w) A (.call (.ref 198) ⟨[.str (pathOf ls) t], []⟩) R s := by
  obtain ⟨d0, f0, u0, rfl⟩ := o.form
  refine enter (binds := [("path", .str (pathOf ls) t)]) G o.room (by k_is) (by k_is) (BindsTo.of_eq rfl) (locs rfl) ?_
  intro L h₁ F N
  have X := G.K
  obtain ⟨mean, mg, mb, T⟩ := G.T
  have o1 := o.less (m := 3) (by decide)
  have hn := r.n
  have hlen : (pathOf ls).length ≤ 1000 := by have := path_len r.v; omega
  repeat' ((fail_if_success (with_reducible show wpAny _ _ (newList _) _ _ _)); first | walk1 | (dsimp only; walk1))
  refine newList_K F N ?_
  intro D h' F' N' l1
  clear F N l1
  repeat' ((fail_if_success (with_reducible show wpAny _ _ (exec (Stmt.While _ _ _ _) _) _ _ _)); first | walk1 | (dsimp only; walk1))
  rename Fr _ _ _ _ => F1
  rename News _ _ _ _ => N1
  have hm := r.pos
  have e0 : dirV (pathOf ls) = pathOf (ls.take (ls.length - 1)) := by
    have e := dir_take (ls := ls) (m := ls.length - 1) r.v (by omega)
    rw [show ls.length - 1 + 1 = ls.length by omega, List.take_length] at e
    exact e
  rw [e0] at F1
  refine while_kv (Str.ofString "front") [] (fun n kv news' => n ≤ ls.length - 1 ∧ (∃ t, kv = [(Str.ofString "front", .str (pathOf (ls.take n)) t)]) ∧ ∃ vs c, news' = [(D, listOf (List.toArray vs) c)] ∧ StrsAre vs (frs ls n)) (n₀ := ls.length - 1) F1 N1 ?_ ?_
  · refine ⟨[(Str.ofString "front", ?v0)], ?V0, ?h10, ?h20⟩
    case h10 => intro p hp; obtain rfl := List.mem_singleton.mp hp; exact rfl
    case V0 => exact ⟨Nat.le_refl _, ⟨_, rfl⟩, [], 0, rfl, by unfold frs; simp; exact .nil⟩
    case h20 => simp
  · rintro n kv u news₁ h2 tk2 F2 N2 ⟨hn2, ⟨t2, rfl⟩, vs, c, rfl, hvs⟩
    clear F1 N1
    have hvt : ∀ b ∈ ls.take n, b ∈ vocab := fun b hb => r.v b (List.mem_of_mem_take hb)
    have hlen2 : (pathOf (ls.take n)).length ≤ 1000 := by have := path_len hvt; simp at this; omega
    have hvl := hvs.len_eq
    have hfl : (frs ls n).length ≤ 10 := by unfold frs; simp; omega
    repeat' (first | walk1 | (dsimp only; walk1))
    · obtain ⟨k, rfl⟩ : ∃ k, n = k + 1 := by
        cases n with
        | zero => exact (tf2 (by assumption) (by rw [List.take_zero, path_nil]; decide +kernel)).elim
        | succ k => exact ⟨k, rfl⟩
      have e1 := dir_take (ls := ls) (m := k) r.v (by omega)
      have e2 := frs_next (ls := ls) (m := k) hn2
      refine ⟨rfl, _, _, _, _, k, rfl, by assumption, by assumption, by omega, [(Str.ofString "front", ?v1)], ?V1, ?h11, ?h21⟩
      case h11 => intro p hp; obtain rfl := List.mem_singleton.mp hp; exact rfl
      case V1 =>
        refine ⟨by omega, ⟨_, by rw [← e1]⟩, _, _, by rw [List.push_toArray], ?_⟩
        rw [e2]
        exact hvs.append' (.cons _ _ .nil)
      case h21 => simp +contextual [mset, mput]
    · have e1 : n = 0 := by
        have := path_root hvt (by simpa using ‹(pathOf (List.take n ls) != Str.ofString "/") = false›)
        rw [List.take_eq_nil_iff] at this
        rcases this with h | h
        · exact h
        · rw [h] at hm; simp at hm
      subst e1
      exact h _ _ _ _ _ F2.keep (News.fresh N2 (List.Mem.head _)) (News.get N2 (List.Mem.head _)) hvs
end
end Mine
end

section
open PySem PySem.W PyProof.Rows
set_option Elab.async false
set_option maxRecDepth 100000
set_option maxHeartbeats 0
namespace Mine
section
variable {prog : Program} {w : World} {A : Around} {s : Shared} {R : Result → Shared → Prop}
local macro_rules | `(tactic| size_fits) => `(tactic| (simp only [sizeLine]; omega))
def words8 : List Str := [Str.ofString "a", Str.ofString "co", Str.ofString "Com", Str.ofString "77", Str.ofString "b", Str.ofString "77x", Str.ofString "C", Str.ofString "local"]
theorem words8_v : ∀ x ∈ words8, x ∈ vocab := by decide +kernel
theorem c_labels {n least : Int} {t u : Tok} (h0 : 0 ≤ n) (h1 : n < 4096) (hl0 : 0 ≤ least) (hl1 : least ≤ 4) (o : Ok A 3) (G : Gd w s.heap)
    (h : ∀ h' tk a vs c ws, Kp s.heap h' → s.heap.get? a = none → h'.get? a = some (listOf (List.toArray vs) c) → StrsAre vs ws → (∀ x ∈ ws, x ∈ vocab) → least ≤ ws.length → ws.length ≤ 4 → R (.ok (.ret (.ref a))) { s with heap := h', toks := tk }) :
    codeAny (model prog w) A (.call (.ref 172) ⟨[.int n t, .int least u], []⟩) R s := by
  obtain ⟨d0, f0, u0, rfl⟩ := o.form
  w_top off
  refine enter (binds := [("n", .int n t), ("least", .int least u)]) G o.room (by k_is) (by k_is) (BindsTo.of_eq rfl) (locs rfl) ?_
  intro L h₁ F N
  have X := G.K
  obtain ⟨mean, mg, mb, T⟩ := G.T
  repeat' ((fail_if_success (with_reducible show wpAny _ _ (newList _) _ _ _)); first | walk1 | (dsimp only; walk1))
  refine newList_K F N ?_
  intro W hW FW NW lW
  clear lW
  obtain ⟨vs8, hvs8, NW'⟩ : ∃ vs8, StrsAre vs8 words8 ∧ News s.heap L hW [(W, listOf (List.toArray vs8) 0)] :=
    ⟨_, .cons _ _ (.cons _ _ (.cons _ _ (.cons _ _ (.cons _ _ (.cons _ _ (.cons _ _ (.cons _ _ .nil))))))), NW⟩
  clear F N NW
  have hl8 : vs8.length = 8 := hvs8.len_eq
  repeat' ((fail_if_success (with_reducible show wpAny _ _ (newList _) _ _ _)); first | walk1 | (dsimp only; walk1))
  refine newList_K (by assumption) (by assumption) ?_
  intro D hD FD ND lD
  repeat' ((fail_if_success (with_reducible show wpAny _ _ (exec (Stmt.While _ _ _ _) _) _ _ _)); first | walk1 | (dsimp only; walk1))
  rename Fr _ _ _ _ => F1
  rename News _ _ _ _ => N1
  have hWD : W ≠ D := Nat.ne_of_lt (lD _ (List.Mem.head _))
  clear lD
  refine while_kv (Str.ofString "n") [] (fun q kv news' => ∃ (nn : Int) (t : Tok) (vs : List Value) (c : Nat) (ws : List Str), kv = [(Str.ofString "n", .int nn t)] ∧ news' = [(D, listOf (List.toArray vs) c), (W, listOf (List.toArray vs8) 0)] ∧
    StrsAre vs ws ∧ (∀ x ∈ ws, x ∈ vocab) ∧ q + ws.length = 4 ∧ 0 ≤ nn ∧ nn < 4096 ∧ (q = 3 → nn < 512) ∧ (q = 2 → nn < 64) ∧ (q = 1 → nn < 8) ∧ (q = 0 → nn < 1)) (n₀ := 4) F1 N1 ?_ ?_
  · refine ⟨[(Str.ofString "n", ?v0)], ?V0, ?h10, ?h20⟩
    case h10 => intro p hp; obtain rfl := List.mem_singleton.mp hp; exact rfl
    case V0 => exact ⟨_, _, [], 0, [], rfl, rfl, .nil, by simp, rfl, h0, h1, by omega, by omega, by omega, by omega⟩
    case h20 => simp
  · rintro q kv uu news₁ h2 tk2 F2 N2 ⟨nn, t2, vs, c, ws, rfl, rfl, hvs, hwv, hq, hn0, hn1, hq3, hq2, hq1, hq0⟩
    clear F1 N1
    have hvl := hvs.len_eq
    have hvsK := hvs
    repeat' ((fail_if_success (with_reducible show wpAny _ _ (subscriptTail _ _ _ _) _ _ _)); first | walk1 | (dsimp only; walk1))
    · have em : nn.fmod 8 = nn % 8 := Int.fmod_eq_emod_of_nonneg _ (by decide)
      have ed : nn.fdiv 8 = nn / 8 := Int.fdiv_eq_ediv_of_nonneg _ (by decide)
      obtain ⟨t3, ht3⟩ := strs_at' (k := nn.fmod 8) hvs8 (by omega) (by show nn.fmod 8 < 8; omega)
      refine item_l (News.isList N2 (by k_mem)) (by omega) (by omega) ht3 ?_
      have hmem : words8.getD (nn.fmod 8).toNat Str.empty ∈ vocab := words8_v _ (getD_mem (by show (nn.fmod 8).toNat < 8; omega))
      repeat' (first | walk1 | (dsimp only; walk1))
      obtain ⟨q', rfl⟩ : ∃ q', q = q' + 1 := ⟨q - 1, by omega⟩
      refine ⟨rfl, _, _, _, _, q', rfl, by assumption, by assumption, by omega, [(Str.ofString "n", ?va)], ?Va, ?h1a, ?h2a⟩
      case h1a => intro p hp; obtain rfl := List.mem_singleton.mp hp; exact rfl
      case Va =>
        refine ⟨_, _, vs ++ [_], _, ws ++ [_], rfl, by rw [List.push_toArray], hvs.append' (.cons _ _ .nil), ?_, by simp; omega, by omega, by omega, by omega, by omega, by omega, by omega⟩
        intro x hx
        rcases List.mem_append.mp hx with hx | hx
        · exact hwv x hx
        · rw [List.mem_singleton.mp hx]; exact hmem
      case h2a => simp +contextual [mset, mput]
    · have em : nn.fmod 8 = nn % 8 := Int.fmod_eq_emod_of_nonneg _ (by decide)
      have ed : nn.fdiv 8 = nn / 8 := Int.fdiv_eq_ediv_of_nonneg _ (by decide)
      obtain ⟨t3, ht3⟩ := strs_at' (k := nn.fmod 8) hvs8 (by omega) (by show nn.fmod 8 < 8; omega)
      refine item_l (News.isList N2 (by k_mem)) (by omega) (by omega) ht3 ?_
      have hmem : words8.getD (nn.fmod 8).toNat Str.empty ∈ vocab := words8_v _ (getD_mem (by show (nn.fmod 8).toNat < 8; omega))
      repeat' (first | walk1 | (dsimp only; walk1))
      obtain ⟨q', rfl⟩ : ∃ q', q = q' + 1 := ⟨q - 1, by omega⟩
      refine ⟨rfl, _, _, _, _, q', rfl, by assumption, by assumption, by omega, [(Str.ofString "n", ?vb)], ?Vb, ?h1b, ?h2b⟩
      case h1b => intro p hp; obtain rfl := List.mem_singleton.mp hp; exact rfl
      case Vb =>
        refine ⟨_, _, vs ++ [_], _, ws ++ [_], rfl, by rw [List.push_toArray], hvs.append' (.cons _ _ .nil), ?_, by simp; omega, by omega, by omega, by omega, by omega, by omega, by omega⟩
        intro x hx
        rcases List.mem_append.mp hx with hx | hx
        · exact hwv x hx
        · rw [List.mem_singleton.mp hx]; exact hmem
      case h2b => simp +contextual [mset, mput]
    · exact h _ _ _ _ _ _ F2.keep (News.fresh N2 (List.Mem.head _)) (News.get N2 (List.Mem.head _)) hvs hwv (by omega) (by omega)
end
end Mine
end

section
open PySem PySem.W PyProof.Rows
set_option Elab.async false
set_option maxRecDepth 100000
set_option maxHeartbeats 0
namespace Mine
section
variable {prog : Program} {w : World} {A : Around} {s : Shared} {R : Result → Shared → Prop}
local macro_rules | `(tactic| size_fits) => `(tactic| (simp only [sizeLine]; omega))

theorem getD_rng {nums : List Int} (h : ∀ n ∈ nums, 0 ≤ n ∧ n < 3840) : 0 ≤ nums.getD (Int.toNat 0) 0 ∧ nums.getD (Int.toNat 0) 0 < 3840 := by
  cases nums with
  | nil => simp
  | cons a r => exact h a (List.mem_cons_self ..)
theorem abs_rng (k : Int) : 0 ≤ (if k < 0 then -k else k).fmod 3840 ∧ (if k < 0 then -k else k).fmod 3840 < 3840 := by
  have e := Int.fmod_eq_emod_of_nonneg (if k < 0 then -k else k) (b := 3840) (by decide)
  rw [e]
  omega
theorem map_rng (l : List Int) : ∀ n ∈ l.map (fun k' => (if k' < 0 then -k' else k').fmod 3840), 0 ≤ n ∧ n < 3840 := by
  intro n hn
  obtain ⟨k, _, rfl⟩ := List.mem_map.mp hn
  exact abs_rng k
theorem sub_ow {own E : List (Addr × Obj)} {x p : Addr × Obj} (h : p ∈ own ++ E) : p ∈ own ++ x :: E := by
  rcases List.mem_append.mp h with h | h
  · exact List.mem_append_left _ h
  · exact List.mem_append_right _ (.tail _ h)
theorem rows_pre {h₀ h : Heap} {L RA x : Addr} {o o' : Obj} {news own E : List (Addr × Obj)} (N : News h₀ L h news) (h1 : (RA, o) ∈ news) (h2 : (x, o') ∈ news) (h3 : ∀ p ∈ own ++ E, p ∈ news) : News h₀ L h ((RA, o) :: (x, o') :: (own ++ E)) := by
  intro p hp
  rcases List.mem_cons.mp hp with rfl | hp
  · exact N _ h1
  rcases List.mem_cons.mp hp with rfl | hp
  · exact N _ h2
  exact N _ (h3 p hp)
theorem rows_ne {RA x : Addr} {o' : Obj} {own E : List (Addr × Obj)} (h1 : x ≠ RA) (h3 : ∀ x o, (x, o) ∈ own ++ E → x ≠ RA) : ∀ p ∈ (x, o') :: (own ++ E), p.1 ≠ RA := by
  intro p hp
  rcases List.mem_cons.mp hp with rfl | hp
  · exact h1
  exact h3 _ _ hp
theorem rows_end {h₀ h : Heap} {L RA x : Addr} {us : List Value} {c : Nat} {v : Value} {o' : Obj} {own E : List (Addr × Obj)} (N : News h₀ L h ((RA, listOf (us.toArray.push v) c) :: (x, o') :: (own ++ E))) : News h₀ L h (own ++ (RA, listOf (List.toArray (us ++ [v])) c) :: (x, o') :: E) := by
  rw [List.push_toArray] at N
  intro p hp
  refine N p ?_
  simp only [List.mem_append, List.mem_cons] at hp ⊢
  rcases hp with h | h | h | h
  · exact .inr (.inr (.inl h))
  · exact .inl h
  · exact .inr (.inl h)
  · exact .inr (.inr (.inr h))
theorem rows_I {I x RA : Addr} {o' : Obj} {E : List (Addr × Obj)} (h1 : ∀ p ∈ (RA, o') :: E, p.1 ≠ I) (h2 : I < x) {o1 o2 : Obj} : ∀ p ∈ (RA, o1) :: (x, o2) :: E, p.1 ≠ I := by
  intro p hp
  rcases List.mem_cons.mp hp with rfl | hp
  · exact h1 (RA, o') (.head _)
  rcases List.mem_cons.mp hp with rfl | hp
  · exact (Nat.ne_of_lt h2).symm
  exact h1 _ (.tail _ hp)
theorem rows_row {rs : List (List Str)} {ws : List Str} (h : ∀ r ∈ rs, Row r) (h1 : Row ws) : ∀ r ∈ rs ++ [ws], Row r := by
  intro r hr
  rcases List.mem_append.mp hr with hr | hr
  · exact h r hr
  · rw [List.mem_singleton.mp hr]; exact h1
theorem c_rows {l : Addr} {vs : List Value} {ns : List Int} (hl : s.heap.IsList l vs.toArray) (hv : IntsAre vs ns) (hn : ns.length ≤ 63) (o : Ok A 5) (G : Gd w s.heap)
    (h : ∀ h' tk a us c E rs, Kp s.heap h' → (∀ p ∈ (a, listOf (List.toArray us) c) :: E, h'.get? p.1 = some p.2 ∧ s.heap.get? p.1 = none) → RowsIn E us rs → (∀ r ∈ rs, Row r) → rs.length ≤ 5 → R (.ok (.ret (.ref a))) { s with heap := h', toks := tk }) :
    codeAny (model prog w) A (.call (.ref 177) ⟨[.ref l], []⟩) R s := by
  obtain ⟨d0, f0, u0, rfl⟩ := o.form
  refine enter (binds := [("script", .ref l)]) G o.room (by k_is) (by k_is) (BindsTo.of_eq rfl) (locs rfl) ?_
  intro L h₁ F N
  have X := G.K
  obtain ⟨mean, mg, mb, T⟩ := G.T
  have hvl := hv.length
  repeat' ((fail_if_success (with_reducible show wpAny _ _ (exec (Stmt.Assign _ (Expr.ListComp _ _ _ _) _) _) _ _ _)); first | walk1 | (dsimp only; walk1))
  refine LCg.Assign_ListComp_U (F₀ := F) (by rfl) (by with_unfolding_all rfl) (by rfl) (by decide) (by rfl) (by decide) (by rfl) (by rfl) (by rfl) ?_
  refine wpAny_mono (Q := fun xv s₁ => ∃ ax vs' ns' c h tk, xv = .ref ax ∧ s₁ = { s with heap := h, toks := tk } ∧ Fr s.heap L h (fun y => List.lookup y [(Str.ofString "script", Value.ref l)].reverse) ∧ News s.heap L h [(ax, listOf (List.toArray vs') c)] ∧ IntsAre vs' ns' ∧ 0 < ns'.length ∧ ns'.length ≤ 4) ?_ ?_ (fun _ _ x => x)
  · repeat' ((fail_if_success (with_reducible refine Exists.intro ?_ ?_)); first | walk1 | (dsimp only; walk1))
    · rename News _ _ _ _ => N1
      rename Fr _ _ _ _ => F1
      exact ⟨_, _, List.take 4 ns, _, _, _, rfl, rfl, F1, N1, by assumption, by simp; omega, by simp; omega⟩
    · rename News _ _ _ _ => N1
      rename Fr _ _ _ _ => F1
      exact ⟨_, [.int 82 _], [82], 0, _, _, rfl, rfl, F1, N1, .cons _ _ .nil, by decide, by decide⟩
  rintro xv s₁ ⟨ax, vs', ns', c, h2, tk2, rfl, rfl, F2, N2, hI2, hp2, hq2⟩
  clear F N
  have hvl2 := hI2.length
  refine LCg.CompSrc.ledger rfl F2 N2 (List.Mem.head _) (by simp [sizeLine]; omega) ?_
  intro g
  refine comp_ind (List.toArray vs').size (fun i ys news => news = [(ax, listOf (List.toArray vs') c)] ∧ ∃ nums, IntsAre ys nums ∧ nums.length = i ∧ ∀ n ∈ nums, 0 ≤ n ∧ n < 3840) ?_ ?_ ⟨rfl, [], .nil, rfl, by simp⟩
  · rintro i ys news v I oI C oC D m₂ h3 tk3 E' hi ⟨rfl, nums, hIn, hnl, hrg⟩ hP hN hm F3 N3 off ne
    obtain ⟨k, t3, rfl⟩ : ∃ k t3, v = .int k t3 := by
      have hv' : vs'[i]? = some v := by simpa using hP
      have hi' : i < ns'.length := by simp at hi; omega
      obtain ⟨t, hx⟩ := hI2.get i ns'[i] (by simp [hi'])
      rw [hx] at hv'
      exact ⟨_, _, (Option.some.inj hv').symm⟩
    repeat' ((fail_if_success (with_reducible show LCg.CompEnd _ _ _ _ _ _ _ _ _ _ _ _ _ _)); first | walk1 | (dsimp only; walk1))
    refine ⟨_, _, _, rfl, F3, N3, off, .inr ⟨_, List.Mem.head _, rfl, _, rfl⟩, rfl, nums ++ [(if k < 0 then -k else k).fmod 3840], hIn.append (.cons _ _ .nil), by simp; omega, ?_⟩
    intro n hn
    rcases List.mem_append.mp hn with hn | hn
    · exact hrg n hn
    · rw [List.mem_singleton.mp hn]; exact abs_rng k
  · rintro ys news ⟨rfl, nums, hIn, hnl, hrg⟩
    clear F2 N2
    intro D h3 tk3 F3 N3 off
    dsimp only
    have hnl' : nums.length = ns'.length := by rw [hnl]; simp; omega
    repeat' ((fail_if_success (with_reducible show wpAny _ _ (call (Value.ref _) _) _ _ _)); first | walk1 | (dsimp only; walk1))
    have c0 := getD_rng hrg
    have c1 := Int.fmod_eq_emod_of_nonneg (nums.getD (Int.toNat 0) 0) (b := 3) (by decide)
    refine wpAny_call (c_labels (by omega) (by omega) (by omega) (by omega) (Ok.deeper (o.less (m := 4) (by decide))) (Gd.keeps G F3.keep) ?_)
    intro h4 tk4 a vsA cA wsA k4 frA haA hvA hvocA hloA hhiA
    have F4 := Fr.st F3 k4
    have N4 := news_ret F3 N3 k4 frA haA
    have hlA := hvA.len_eq
    clear F3 N3 k4
    dsimp only
    repeat' ((fail_if_success (with_reducible show wpAny _ _ (subscriptTail _ _ _ _) _ _ _)); first | walk1 | (dsimp only; walk1))
    rename Fr _ _ _ _ => F5
    rename News _ _ _ _ => N5
    refine slice_list (s := ⟨_, _, _, _, _⟩) F5 N5 (News.isList N5 (List.Mem.head _)) (.int _ _) .none ?_ (hsz := by simp [sizeLine]; omega)
    intro h6 F6 N6
    clear F5 N5
    rw [pick_from1] at N6
    repeat' ((fail_if_success (with_reducible show wpAny _ _ (newList _) _ _ _)); first | walk1 | (dsimp only; walk1))
    refine newList_K F6 N6 ?_
    intro RA h7 F7 N7 l7
    clear F6 N6
    repeat' ((fail_if_success (with_reducible show wpAny _ _ (exec (Stmt.For _ _ _ _ _) _) _ _ _)); first | walk1 | (dsimp only; walk1))
    refine For_invV s.heap (by rfl) (by rfl) ?_
    repeat' ((fail_if_success (with_reducible show wpAny _ _ (subscriptTail _ _ _ _) _ _ _)); first | walk1 | (dsimp only; walk1))
    rename Fr _ _ _ _ => F8
    rename News _ _ _ _ => N8
    refine slice_list (s := ⟨_, _, _, _, _⟩) F8 N8 (News.isList N8 (by k_mem)) (.int _ _) .none ?_ (hsz := by simp [sizeLine]; have := hIn.length; omega)
    have hRl := Heap.lt_size (News.get N8 (List.Mem.head _))
    intro h9 F9 N9
    clear F8 N8
    rw [pick_from1] at N9
    have hvA1 := hvA.drop' 1
    have rowA : Row wsA := ⟨by omega, by omega, hvocA⟩
    have rowA1 : Row (wsA.drop 1) := ⟨by simp; omega, by simp; omega, fun x hx => hvocA x (List.mem_of_mem_drop hx)⟩
    have hne7 : ∀ p ∈ [(_, _), (a, listOf (List.toArray vsA) cA), (D, LCg.lst ys), (ax, listOf (List.toArray vs') c)], p.1 ≠ RA := fun p hp => Nat.ne_of_lt (l7 p hp)
    have hI1 := hIn.drop 1
    refine iterL_kv [Str.ofString "row"] (fun i kv news' => kv = [] ∧ ∃ us E rs c, news' = (RA, listOf (List.toArray us) c) :: E ∧ RowsIn E us rs ∧ (∀ r ∈ rs, Row r) ∧ rs.length = 2 + i ∧ (a, listOf (List.toArray vsA) cA) ∈ E ∧ ∀ p ∈ E, p.1 ≠ RA) rfl (News.isList N9 (List.Mem.head _)) (News.ne N9 (List.Mem.head _)) F9
      (fun p hp => N9 p (List.Mem.tail _ hp)) ⟨[], ⟨rfl, [.ref a, .ref _], _, [wsA, wsA.drop 1], 0, rfl, .cons (List.Mem.tail _ (List.Mem.head _)) hvA (.cons (List.Mem.head _) hvA1 .nil), ?_, rfl, List.Mem.tail _ (List.Mem.head _), hne7⟩, by simp, by simp⟩ ?_ ?_
    · intro r hr
      rcases List.mem_cons.mp hr with rfl | hr
      · exact rowA
      · rw [List.mem_singleton.mp hr]; exact rowA1
    · rintro i v kv u news₁ h10 tk10 own I hvi ⟨rfl, us, E, rs, c2, rfl, hR, hRow, hrl, haE, hER⟩ hoff hI F10 N10 ⟨hown, oI, hIo⟩
      clear F9 N9
      obtain ⟨k, t3, rfl, hk0, hk1⟩ : ∃ k t3, v = .int k t3 ∧ 0 ≤ k ∧ k < 3840 := by
        have hil : i < (nums.drop 1).length := by
          rcases Nat.lt_or_ge i (nums.drop 1).length with q | q
          · exact q
          · rw [List.getElem?_eq_none (by rw [hI1.length]; exact q)] at hvi; cases hvi
        obtain ⟨t, hx⟩ := hI1.get i (nums.drop 1)[i] (by simp [hil])
        rw [hx] at hvi
        have hm := hrg (nums.drop 1)[i] (List.mem_of_mem_drop (List.getElem_mem hil))
        exact ⟨_, _, (Option.some.inj hvi).symm, hm⟩
      have hil4 : i < 3 := by
        have : i < (ys.drop 1).length := by
          rcases Nat.lt_or_ge i (ys.drop 1).length with q | q
          · exact q
          · rw [List.getElem?_eq_none q] at hvi; cases hvi
        have := hIn.length
        simp at *
        omega
      repeat' ((fail_if_success (with_reducible show wpAny _ _ (call (Value.ref _) _) _ _ _)); first | walk1 | (dsimp only; walk1))
      have d15 := Int.fdiv_eq_ediv_of_nonneg k (b := 15) (by decide)
      refine wpAny_call (c_labels (by omega) (by omega) (by omega) (by omega) (Ok.deeper (o.less (m := 4) (by decide))) (Gd.keeps G F10.keep) ?_)
      intro h11 tk11 b vsB cB wsB k11 frB haB hvB hvocB _ hhiB
      have F11 := Fr.st F10 k11
      have N11 := news_ret F10 N10 k11 frB haB
      have hlB := hvB.len_eq
      have hvBk := hvB
      have N12 : News s.heap L h11 ((b, listOf (List.toArray vsB) cB) :: (a, listOf (List.toArray vsA) cA) :: (RA, listOf (List.toArray us) c2) :: (I, oI) :: (own ++ (RA, listOf (List.toArray us) c2) :: E)) := by
        intro p hp
        rcases List.mem_cons.mp hp with rfl | hp
        · exact N11 _ (.head _)
        rcases List.mem_cons.mp hp with rfl | hp
        · exact N11 _ (.tail _ (List.mem_append_right _ (.tail _ haE)))
        rcases List.mem_cons.mp hp with rfl | hp
        · exact N11 _ (.tail _ (List.mem_append_right _ (.head _)))
        rcases List.mem_cons.mp hp with rfl | hp
        · exact N11 _ (.tail _ (List.mem_append_left _ hIo))
        exact N11 _ (.tail _ hp)
      have hbR : b ≠ RA := by
        intro e
        have := (N10 (RA, listOf (List.toArray us) c2) (List.mem_append_right _ (.head _))).1
        dsimp only at frB this
        rw [← e, frB] at this
        cases this
      clear F10 N10 N11 k11
      dsimp only
      repeat' ((fail_if_success (with_reducible show wpAny _ _ (subscriptTail _ _ _ _) _ _ _)); first | walk1 | (dsimp only; walk1))
      rename Fr _ _ _ _ => F12
      rename News _ _ _ _ => N12
      refine slice_list (s := ⟨_, _, _, _, _⟩) F12 N12 (News.isList N12 (by k_mem)) (.int _ _) (.int _ _) ?_ (hsz := by simp [sizeLine]; omega)
      intro h13 F13 N13
      clear F12 N12
      have hI13 := Heap.lt_size (News.get N13 (a := I) (o := oI) (by k_mem))
      have hR13 := Heap.lt_size (News.get N13 (a := RA) (o := listOf (List.toArray us) c2) (by k_mem))
      obtain ⟨p, q, e⟩ := pick_some vsA (some (k.fmod 5)) (some ((wsA.length : Int) - (k.fdiv 5).fmod 3))
      rw [e] at N13
      have hvC := (hvA.drop' p).take' q
      have hvCm : ∀ x ∈ (wsA.drop p).take q, x ∈ vocab := fun x hx => hvocA x (List.mem_of_mem_drop (List.mem_of_mem_take hx))
      have hlC : ((wsA.drop p).take q).length ≤ 4 := by simp; omega
      have hlC2 := hvC.len_eq
      repeat' ((fail_if_success (with_reducible show wpAny _ _ (binaryOp _ _ _) _ _ _)); first | walk1 | (dsimp only; walk1))
      rename Fr _ _ _ _ => F12
      rename News _ _ _ _ => N12
      refine add_lists F12 N12 (News.isList N12 (by k_mem)) (News.isList N12 (by k_mem)) ?_ (hsz := by simp only [sizeLine]; omega)
      intro h14 F14 N14
      clear F12 N12
      have hvR := hvB.append' hvC
      have hvRm : ∀ x ∈ wsB ++ (wsA.drop p).take q, x ∈ vocab := fun x hx => (List.mem_append.mp hx).elim (hvocB x) (hvCm x)
      have hlR : (wsB ++ (wsA.drop p).take q).length ≤ 8 := by rw [List.length_append]; omega
      dsimp only
      walk1
      walk1
      walk1
      refine wpAny_Expr_any ?_
      refine MethodCall_ ?_
      walk1
      rename Fr _ _ _ _ => F15
      rename News _ _ _ _ => N15
      refine PySem.Calls.getMethod_list_append (News.get N15 (List.Mem.tail _ (List.Mem.tail _ (List.Mem.tail _ (List.Mem.tail _ (List.Mem.head _)))))) rfl rfl ?_
      dsimp only
      walk1
      walk1
      repeat' ((fail_if_success (with_reducible show wpAny _ _ (compareOp _ _ _) _ _ _)); first | walk1 | (dsimp only; walk1))
      rename Fr _ _ _ _ => F16
      rename News _ _ _ _ => N16
      have hOwnR : ∀ p ∈ own, p.1 ≠ RA := by
        intro p hp
        rcases hown p hp with e | e
        · rw [e]; exact (hoff _ (.head _)).symm
        · rw [e]; exact (Nat.ne_of_lt (Nat.lt_succ_of_lt hRl)).symm
      have hxR : ∀ x o, (x, o) ∈ own ++ E → x ≠ RA := by
        intro x o hx
        rcases List.mem_append.mp hx with hx | hx
        · exact hOwnR _ hx
        · exact hER _ hx
      have hlU := hR.len
      refine ne_strs (News.isList N16 (by k_mem)) (News.isList N16 (List.Mem.head _)) hvR .nil (fun x hx => vocab_ok x (hvRm x hx)) (by simp) (by have := o.u; simp only [Around.deeper, cLine] at *; omega) ?_
      repeat' ((fail_if_success (with_reducible show wpAny _ _ (call (Value.builtin "list.append") _) _ _ _)); first | walk1 | (dsimp only; walk1))
      · rename Fr _ _ _ _ => F17
        rename News _ _ _ _ => N17
        rename_i _ _ lt17
        refine append_K F17 (news := (RA, listOf us.toArray c2) :: (_, listOf (List.toArray [.str (Str.ofString "a") _]) 0) :: (own ++ E)) (rows_pre N17 (by k_mem) (by k_mem) (fun p hp => .tail _ (.tail _ (.tail _ (.tail _ (.tail _ (.tail _ (.tail _ (.tail _ (sub_ow hp)))))))))) (Upd.head ?_) ?_ (hsz := by simp [sizeLine]; omega)
        · exact rows_ne (Nat.ne_of_gt (by omega)) hxR
        · intro h18 F18 N18
          repeat' ((fail_if_success (with_reducible show Turn _ _ _ _ _ _ _ _ _)); first | walk1 | (dsimp only; walk1))
          refine ⟨_, _, _, _, rfl, F18, rows_end N18, rows_I hoff ?_, [], ⟨rfl, _, _, rs ++ [[Str.ofString "a"]], _, rfl, (hR.mono (fun p hp => .tail _ hp)).snoc (.head _) (.cons _ _ .nil), rows_row hRow ⟨by decide, by decide, by decide⟩, by simp; omega, .tail _ haE, ?_⟩, by simp, ?_⟩
          · exact lt17.2.2.2.2.2.2.1
          · exact rows_ne (own := []) (Nat.ne_of_gt (by omega)) (fun x o hx => hER _ hx)
          · simp +contextual [mset, mput]
      · rename_i hdec
        have hne := of_decide_eq_false hdec
        refine append_K F16 (news := (RA, listOf us.toArray c2) :: (_, listOf (List.toArray (vsB ++ List.take q (List.drop p vsA))) 0) :: (own ++ E)) (rows_pre N16 (by k_mem) (by k_mem) (fun p hp => .tail _ (.tail _ (.tail _ (.tail _ (.tail _ (.tail _ (.tail _ (sub_ow hp))))))))) (Upd.head ?_) ?_ (hsz := by simp [sizeLine]; omega)
        · exact rows_ne (Nat.ne_of_gt hR13) hxR
        · intro h17 F17 N17
          repeat' ((fail_if_success (with_reducible show Turn _ _ _ _ _ _ _ _ _)); first | walk1 | (dsimp only; walk1))
          refine ⟨_, _, _, _, rfl, F17, rows_end N17, rows_I hoff hI13, [], ⟨rfl, _, _, rs ++ [wsB ++ List.take q (List.drop p wsA)], _, rfl, (hR.mono (fun p hp => .tail _ hp)).snoc (.head _) hvR, rows_row hRow ⟨by omega, List.length_pos_iff.mpr hne, hvRm⟩, by simp; omega, .tail _ haE, ?_⟩, by simp, ?_⟩
          · exact rows_ne (own := []) (Nat.ne_of_gt hR13) (fun x o hx => hER _ hx)
          · simp +contextual [mset, mput]
    · rintro kv u news₁ h10 tk10 ⟨rfl, us, E, rs, c2, rfl, hR, hRow, hrl, haE, hER⟩ F10 N10
      clear F9 N9
      repeat' (first | walk1 | (dsimp only; walk1))
      have := hIn.length
      exact h _ _ _ _ _ _ _ F10.keep (fun p hp => ⟨(N10 p hp).1, (N10 p hp).2.2⟩) hR hRow (by rw [hrl]; simp; omega)
end
end Mine
end

section
open PySem PySem.W PyProof.Rows PySem.Calls PyProof.V
set_option Elab.async false
set_option maxRecDepth 100000
set_option maxHeartbeats 400000
namespace Mine
theorem mput_form {m' m₀ : Str → Option Value} : ∀ (zs : List Str), (∀ z, z ∉ zs → m' z = m₀ z) → m' = mput zs m' m₀
  | [], h => by funext y; exact h y (by simp)
  | k :: r, h => by
    funext y
    simp only [mput]
    split
    · rfl
    · rename_i hne
      by_cases hy : y ∈ r
      · have := mput_form (m' := m') (m₀ := fun z => if z ∈ k :: r then m' z else m₀ z) r (by
          intro z hz
          by_cases hk : z ∈ k :: r
          · simp only [hk, if_true]
          · simp only [hk, if_false]; exact h z hk)
        have key : ∀ (r : List Str) (a b : Str → Option Value), y ∈ r → mput r m' a y = mput r m' b y := by
          intro r
          induction r with
          | nil => intro a b h; simp at h
          | cons q t ih =>
            intro a b h
            simp only [mput]
            split
            · rfl
            · rename_i hq
              exact ih a b (by simpa [hq] using h)
        rw [key r m₀ _ hy, ← this]
      · have key : ∀ (r : List Str), y ∉ r → mput r m' m₀ y = m₀ y := by
          intro r
          induction r with
          | nil => intro _; rfl
          | cons q t ih =>
            intro h
            simp only [mput]
            rw [if_neg (fun e => h (by simp [e])), ih (fun e => h (by simp [e]))]
        rw [key r hy]
        exact h y (by simp [hne, hy])
section
variable {prog : Program} {w : World} {A : Around} {s : Shared} {E : Value → Shared → Prop} {env : Env} {h₀ : Heap} {x : Str} {px pos : Pos} {body : List Stmt} {Q : Flow → Shared → Prop}
  {m₀ : Str → Option Value} {news : List (Addr × Obj)} {c : Addr}
/-- the end of a turn whose target is a cell -/
def TurnC (h₀ : Heap) (L : Addr) (nw : List (Addr × Obj)) (zs : List Str) (m₀ : Str → Option Value) (s : Shared) (Q : Flow → Shared → Prop) (f : Flow) (s₂ : Shared) : Prop :=
  match f with
  | .ret v => Q (.ret v) s₂
  | .brk => Q .next s₂
  | _ => ∃ h' tk m', s₂ = { s with heap := h', toks := tk } ∧ Fr h₀ L h' m' ∧ News h₀ L h' nw ∧ ∀ z, z ∉ zs → m' z = m₀ z

theorem loopC {R : Result → Shared → Prop} {I : Addr} {n : Nat} {P : Nat → Value → Prop} {St : Nat → Heap → Prop} (zs : List Str) (W : Walks prog w A I [I] [I] n P St) (hx : env.kindOf x = some .cell) (hk : env.scope.kind = .function) (hc : env.cells.lookup x = some c)
    (hIL : env.locals ≠ I) (hI : h₀.get? I = none) (live : ∀ i h, St i h → ∃ o, h.get? I = some o) (off : ∀ p ∈ news, p.1 ≠ I ∧ p.1 ≠ c) (hcI : c ≠ I) (hst : St 0 s.heap) {o : Obj} {v₀ : Option Value}
    (F : Fr h₀ env.locals s.heap m₀) (N : News h₀ env.locals s.heap ((c, o) :: news)) (hd : o.data = .cell v₀)
    (turn : ∀ i v u h tk oI o', i < n → P i v → Fr h₀ env.locals h (mput zs u m₀) → News h₀ env.locals h ((I, oI) :: (c, o') :: news) → o'.data = .cell (some v) →
      wpAny (model prog w) A (execs body env) (TurnC h₀ env.locals ((I, oI) :: (c, o') :: news) zs m₀ s (fun f s' => R (.ok f) s')) (notedBy (model prog w) A env fun e s' => R (.error e) s') { s with heap := h, toks := tk })
    (done : ∀ u h tk o v, Fr h₀ env.locals h (mput zs u m₀) → News h₀ env.locals h ((c, o) :: news) → o.data = .cell v → R (.ok .next) { s with heap := h, toks := tk }) :
    codeAny (model prog w) A (.forLoop (.Name x px) (.ref I) body [] env) R s := by
  refine codeAny_forLoop
    (fun k s' => ∃ h' tk m' i o v, s' = { s with heap := h', toks := tk } ∧ St i h' ∧ Fr h₀ env.locals h' m' ∧ News h₀ env.locals h' ((c, o) :: news) ∧ o.data = .cell v ∧ (∀ z, z ∉ zs → m' z = m₀ z) ∧ i ≤ n ∧ k = n + 1 - i) ?_ (n + 1)
    ⟨s.heap, s.toks, m₀, 0, o, v₀, rfl, hst, F, N, hd, fun _ _ => rfl, Nat.zero_le _, rfl⟩
  rintro k s' ⟨h', tk, m', i, o₁, v₁, rfl, hst', F', N', hd', hm, hi, rfl⟩
  have next : ∀ h₁ : Heap, (∀ b o, b ∉ [I] → h'.get? b = some o → h₁.get? b = some o) → Fr h₀ env.locals h₁ m' ∧ News h₀ env.locals h₁ ((c, o₁) :: news) := by
    intro h₁ hk₁
    refine ⟨⟨F'.ns.at' fun o e => hk₁ _ o (by simpa using hIL) e, fun b o e => hk₁ b o ?_ (F'.keep b o e), F'.above⟩, fun p hp => ⟨hk₁ _ _ ?_ (N' p hp).1, (N' p hp).2⟩⟩
    · intro hb
      rw [List.mem_singleton.mp hb, hI] at e; cases e
    · rcases List.mem_cons.mp hp with rfl | hp
      · simpa using hcI
      · simpa using (off p hp).1
  by_cases hlt : i < n
  · refine W.item i _ _ _ hlt hst' fun v h₁ tk₁ hP hst₁ hk₁ => ?_
    obtain ⟨F₁, N₁⟩ := next h₁ hk₁
    have hmem := N₁ (c, o₁) (.head _)
    refine wpAny_assign_Name (wpAny_storeName_cell hk hx hc ⟨o₁, hmem.1, hd'⟩ fun h₂ hv hs => ?_)
    obtain ⟨o', ho', hdo⟩ := hv
    have hst₂ : St (i + 1) h₂ := W.frame _ _ _ hst₁ fun b hb o e => (hs.2 b fun q => hcI (q ▸ List.mem_singleton.mp hb)).trans e
    obtain ⟨oI, hoI⟩ := live _ _ hst₂
    have F₂ : Fr h₀ env.locals h₂ m' := by
      refine ⟨F₁.ns.sameBut hs (Ne.symm hmem.2.1), fun b ob e => (hs.2 b (fun q => ?_)).trans (F₁.keep b ob e), F₁.above⟩
      rw [q, hmem.2.2] at e; cases e
    have N₂ : News h₀ env.locals h₂ ((I, oI) :: (c, o') :: news) := by
      intro p hp
      rcases List.mem_cons.mp hp with rfl | hp
      · exact ⟨hoI, Ne.symm hIL, hI⟩
      rcases List.mem_cons.mp hp with rfl | hp
      · exact ⟨ho', hmem.2⟩
      · exact ⟨(hs.2 _ (off p hp).2).trans (N₁ p (.tail _ hp)).1, (N₁ p (.tail _ hp)).2⟩
    have fin : ∀ s₃, (∃ h' tk m', s₃ = { s with heap := h', toks := tk } ∧ Fr h₀ env.locals h' m' ∧ News h₀ env.locals h' ((I, oI) :: (c, o') :: news) ∧ ∀ z, z ∉ zs → m' z = m₀ z) →
        ∃ h₃ tk m₃ o₃ v₃, s₃ = { s with heap := h₃, toks := tk } ∧ St (i + 1) h₃ ∧ Fr h₀ env.locals h₃ m₃ ∧ News h₀ env.locals h₃ ((c, o₃) :: news) ∧ o₃.data = .cell v₃ ∧ (∀ z, z ∉ zs → m₃ z = m₀ z) := by
      rintro s₃ ⟨h₃, tk₃, m₃, rfl, F₃, N₃, hm₃⟩
      refine ⟨h₃, tk₃, m₃, o', _, rfl, W.frame _ _ _ hst₂ fun b hb o e => ?_, F₃, fun p hp => N₃ p (.tail _ hp), hdo, hm₃⟩
      obtain rfl := List.mem_singleton.mp hb
      rw [hoI] at e
      cases e
      exact (N₃ _ (.head _)).1
    rw [mput_form zs hm] at F₂
    refine wpAny_mono (turn i v m' h₂ _ oI o' hlt hP F₂ N₂ hdo) (fun f s₃ h₃ => ?_) fun _ _ e => e
    cases f with
    | ret v => exact h₃
    | brk => exact h₃
    | cont =>
      obtain ⟨h₃, tk, m₃, o₃, v₃, e, a1, a2, a3, a4, a5⟩ := fin _ h₃
      exact ⟨n + 1 - (i + 1), by omega, h₃, tk, m₃, i + 1, o₃, v₃, e, a1, a2, a3, a4, a5, hlt, rfl⟩
    | next =>
      obtain ⟨h₃, tk, m₃, o₃, v₃, e, a1, a2, a3, a4, a5⟩ := fin _ h₃
      exact ⟨n + 1 - (i + 1), by omega, h₃, tk, m₃, i + 1, o₃, v₃, e, a1, a2, a3, a4, a5, hlt, rfl⟩
  · obtain rfl : i = n := by omega
    refine W.done _ _ _ hst' fun h₁ tk₁ hk₁ => wpAny_execs_nil ?_
    obtain ⟨F₁, N₁⟩ := next h₁ hk₁
    rw [mput_form zs hm] at F₁
    exact done _ h₁ tk₁ _ _ F₁ N₁ hd'

/-- for x in a range, x a cell -/
theorem For_cellR {iter : Expr} (h₀ : Heap) (zs : List Str) (hx : env.kindOf x = some .cell) (hk : env.scope.kind = .function) (hc : env.cells.lookup x = some c) (hh : A.handled = none)
    (h : wpAny (model prog w) A (eval iter env) (fun xv s₁ => ∃ r b t u v m₀ o v₀ news, xv = .ref r ∧ IsRange s₁.heap r 0 b 1 t u v ∧ 0 ≤ b ∧ b ≤ 1000 ∧ Fr h₀ env.locals s₁.heap m₀ ∧ News h₀ env.locals s₁.heap ((c, o) :: news) ∧ o.data = .cell v₀ ∧ (∀ p ∈ news, p.1 ≠ c) ∧
      (∀ (i : Nat) t' u h tk I oI o', (i : Int) < b → Fr h₀ env.locals h (mput zs u m₀) → News h₀ env.locals h ((I, oI) :: (c, o') :: news) → o'.data = .cell (some (.int i t')) →
        wpAny (model prog w) A (execs body env) (TurnC h₀ env.locals ((I, oI) :: (c, o') :: news) zs m₀ s₁ Q) E { s₁ with heap := h, toks := tk }) ∧
      (∀ u h tk o v, Fr h₀ env.locals h (mput zs u m₀) → News h₀ env.locals h ((c, o) :: news) → o.data = .cell v → Q .next { s₁ with heap := h, toks := tk })) E s)
    (hs : ∀ x, foldedSetIterable iter env x = pure x := by intro _; rfl)
    (hE : PassesOwn (model prog w) A env E := by passes_own) :
    wpAny (model prog w) A (exec (.For (.Name x px) iter body [] pos) env) Q E s := by
  refine wpAny_For (wpAny_mono h (fun xv s₁ h₁ => ?_) fun _ _ e => e) hs
  obtain ⟨r, b, t, u, v, m₀, o, v₀, news, rfl, hr, hb, hb2, F, N, hd, off, turn, done⟩ := h₁
  refine wpAny_pyIter_range hr (small_one (by omega) (by omega) (by omega) (by omega)) ?_
  rw [rangeSize_nat]
  have up : ∀ o' b o, s₁.heap.get? b = some o → (s₁.heap.push o').get? b = some o := fun o' b o e => Heap.get?_push_of_some _ e
  have W := Walks.range (prog := prog) (w := w) hh s₁.heap.objs.size 0 1 (b - 0).toNat
  refine loopC (R := fun r s' => match r with | .ok f => Q f s' | .error e => cameBackBy (model prog w) A env E e s') zs W hx hk hc (Nat.ne_of_lt F.ns.lt) (next_new F) (fun i h st => ⟨_, st⟩) (fun p hp => ⟨Nat.ne_of_lt (Heap.lt_size (N p (.tail _ hp)).1), off p hp⟩) (Nat.ne_of_lt (Heap.lt_size (N _ (.head _)).1)) ?_ (F.push _)
    (fun p hp => ⟨Heap.get?_push_of_some _ (N p hp).1, (N p hp).2⟩) hd ?_ ?_
  · show IsRangeIter _ _ _ _ _
    simpa using Heap.get?_push_size _ rfl
  · intro i v' u' h tk oI o' hi hP F₁ N₁ hd₁
    obtain ⟨t', rfl⟩ := hP
    rw [Int.mul_one, Int.zero_add] at hd₁
    exact wpAny_passesOwn hE (turn i t' u' h tk _ oI o' (by omega) F₁ N₁ hd₁)
  · intro u' h tk o' v' F₁ N₁ hd₁
    exact done u' h tk o' v' F₁ N₁ hd₁
end
end Mine
end

section
open PySem PySem.W PyProof.Rows
set_option Elab.async false
set_option maxRecDepth 100000
set_option maxHeartbeats 400000
namespace Mine
theorem news_rets {h₀ h h' : Heap} {L : Addr} {m : Str → Option Value} {news l : List (Addr × Obj)} (F : Fr h₀ L h m) (N : News h₀ L h news) (k : Kp h h') (hl : ∀ p ∈ l, h'.get? p.1 = some p.2 ∧ h.get? p.1 = none) : News h₀ L h' (news ++ l) := by
  intro p hp
  rcases List.mem_append.mp hp with hp | hp
  · exact ⟨k _ _ (N p hp).1, (N p hp).2⟩
  · exact news_ret F N k (hl p hp).2 (hl p hp).1 p (.head _)
theorem rets_ne {h₀ h h' : Heap} {L : Addr} {news l : List (Addr × Obj)} (N : News h₀ L h news) (hl : ∀ p ∈ l, h'.get? p.1 = some p.2 ∧ h.get? p.1 = none) : ∀ p ∈ l, ∀ q ∈ news, p.1 ≠ q.1 := by
  intro p hp q hq e
  have := (N q hq).1
  rw [← e, (hl p hp).2] at this
  cases this
theorem cells_abs {h₀ h : Heap} {L a1 a2 a3 : Addr} {oj op ot : Obj} {vj vp vt : Option Value} {l : List (Addr × Obj)} (N : News h₀ L h ([(a3, oj), (a2, op), (a1, ot)] ++ l)) (hne : ∀ p ∈ l, ∀ q ∈ [(a3, oj), (a2, op), (a1, ot)], p.1 ≠ q.1)
    (dj : oj.data = .cell vj) (dp : op.data = .cell vp) (dt : ot.data = .cell vt) :
    ∃ cs oj op ot vj vp vt, cs = [(a3, oj), (a2, op), (a1, ot)] ∧ oj.data = .cell vj ∧ op.data = .cell vp ∧ ot.data = .cell vt ∧ News h₀ L h (cs ++ l) ∧ ∀ p ∈ l, ∀ q ∈ cs, p.1 ≠ q.1 := ⟨_, _, _, _, _, _, _, rfl, dj, dp, dt, N, hne⟩
theorem take_succ_get {α : Type} {l : List α} {i : Nat} {a : α} (h : l[i]? = some a) : l.take (i + 1) = l.take i ++ [a] := by
  obtain ⟨hi, e⟩ := List.getElem?_eq_some_iff.mp h
  rw [List.take_succ_eq_append_getElem hi, e]
section
variable {h₀ h : Heap} {L I C D D2 ra : Addr} {oI oC oD o2 ro : Obj} {cs E1 : List (Addr × Obj)}
theorem lows_news (N : News h₀ L h ((D2, o2) :: (I, oI) :: (C, oC) :: (D, oD) :: (cs ++ (ra, ro) :: E1))) : News h₀ L h ((I, oI) :: (C, oC) :: (D, oD) :: (cs ++ (ra, ro) :: (D2, o2) :: E1)) := by
  intro p hp
  refine N p ?_
  simp only [List.mem_cons, List.mem_append] at hp ⊢
  rcases hp with h | h | h | h | h | h | h
  · exact .inr (.inl h)
  · exact .inr (.inr (.inl h))
  · exact .inr (.inr (.inr (.inl h)))
  · exact .inr (.inr (.inr (.inr (.inl h))))
  · exact .inr (.inr (.inr (.inr (.inr (.inl h)))))
  · exact .inl h
  · exact .inr (.inr (.inr (.inr (.inr (.inr h)))))
theorem off1_mem {l : List (Addr × Obj)} (h : LCg.Off1 D l) : ∀ p ∈ l, p.1 ≠ D := by
  induction l with
  | nil => intro p hp; cases hp
  | cons a r ih =>
    intro p hp
    rcases List.mem_cons.mp hp with rfl | hq
    · exact h.1
    · exact ih h.2 p hq
theorem lows_off (h1 : LCg.Off3 I C D (cs ++ (ra, ro) :: E1)) (h2 : LCg.Off1 D2 ((I, oI) :: (C, oC) :: (D, oD) :: (cs ++ (ra, ro) :: E1))) : LCg.Off3 I C D (cs ++ (ra, ro) :: (D2, o2) :: E1) := by
  have m1 := h1.mem
  have m2 := off1_mem h2
  refine LCg.Off3.of fun p hp => ?_
  rcases List.mem_append.mp hp with hp | hp
  · exact m1 p (List.mem_append_left _ hp)
  rcases List.mem_cons.mp hp with rfl | hp
  · exact m1 _ (List.mem_append_right _ (.head _))
  rcases List.mem_cons.mp hp with rfl | hp
  · exact ⟨(m2 _ (.head _)).symm, (m2 _ (.tail _ (.head _))).symm, (m2 _ (.tail _ (.tail _ (.head _)))).symm⟩
  · exact m1 _ (List.mem_append_right _ (.tail _ hp))
theorem lows_ne (h1 : ∀ p ∈ E1, ∀ q ∈ cs, p.1 ≠ q.1) (h2 : LCg.Off1 D2 ((I, oI) :: (C, oC) :: (D, oD) :: (cs ++ (ra, ro) :: E1))) : ∀ p ∈ (D2, o2) :: E1, ∀ q ∈ cs, p.1 ≠ q.1 := by
  intro p hp q hq
  rcases List.mem_cons.mp hp with rfl | hp
  · exact (off1_mem h2 q (.tail _ (.tail _ (.tail _ (List.mem_append_left _ hq))))).symm
  · exact h1 p hp q hq
end
section
variable {h₀ h : Heap} {L D ra : Addr} {oD ro : Obj} {cs E1 : List (Addr × Obj)}
theorem lows_fin (N : News h₀ L h ((D, oD) :: (cs ++ (ra, ro) :: E1))) : News h₀ L h (cs ++ (D, oD) :: (ra, ro) :: E1) := by
  intro p hp
  refine N p ?_
  rcases List.mem_append.mp hp with hp | hp
  · exact .tail _ (List.mem_append_left _ hp)
  rcases List.mem_cons.mp hp with rfl | hp
  · exact .head _
  · exact .tail _ (List.mem_append_right _ hp)
theorem lows_fne (h0 : ∀ q ∈ cs, (ra, ro).1 ≠ q.1) (h1 : ∀ p ∈ E1, ∀ q ∈ cs, p.1 ≠ q.1) (h2 : LCg.Off1 D (cs ++ (ra, ro) :: E1)) : ∀ p ∈ (D, oD) :: (ra, ro) :: E1, ∀ q ∈ cs, p.1 ≠ q.1 := by
  intro p hp q hq
  rcases List.mem_cons.mp hp with rfl | hp
  · exact (off1_mem h2 q (List.mem_append_left _ hq)).symm
  rcases List.mem_cons.mp hp with rfl | hp
  · exact h0 q hq
  · exact h1 p hp q hq
end
theorem vocab_low : ∀ x ∈ vocab, Txt.lower x ∈ vocab := by decide +kernel
theorem row_lower {ws : List Str} (r : Row ws) : Row (ws.map Txt.lower) := ⟨by simpa using r.n, by simpa using r.pos, fun x hx => by
  obtain ⟨y, hy, rfl⟩ := List.mem_map.mp hx
  exact vocab_low y (r.v y hy)⟩
/-- what join(*row) gives -/
def tailOf (ws : List Str) : Str := (ws.drop 1).foldl joinStep (ws.headD Str.empty)
theorem tails_cells {h₀ h : Heap} {L D a1 a2 a3 : Addr} {oj op ot oD : Obj} {E : List (Addr × Obj)} (N : News h₀ L h ((D, oD) :: ([(a3, oj), (a2, op), (a1, ot)] ++ E))) (hne : ∀ p ∈ E, ∀ q ∈ [(a3, oj), (a2, op), (a1, ot)], p.1 ≠ q.1)
    (off : LCg.Off1 D ([(a3, oj), (a2, op), (a1, ot)] ++ E)) (h12 : a1 ≠ a2) (h13 : a1 ≠ a3) :
    News h₀ L h ((a1, ot) :: (a3, oj) :: (a2, op) :: (D, oD) :: E) ∧ (∀ p ∈ (D, oD) :: E, p.1 ≠ a1 ∧ p.1 ≠ a2 ∧ p.1 ≠ a3) ∧ ∀ p ∈ (a3, oj) :: (a2, op) :: (D, oD) :: E, p.1 ≠ a1 := by
  have m := off1_mem off
  have hD : ∀ p ∈ (D, oD) :: E, p.1 ≠ a1 ∧ p.1 ≠ a2 ∧ p.1 ≠ a3 := by
    intro p hp
    rcases List.mem_cons.mp hp with rfl | hp
    · exact ⟨(m (a1, ot) (.tail _ (.tail _ (.head _)))).symm, (m (a2, op) (.tail _ (.head _))).symm, (m (a3, oj) (.head _)).symm⟩
    · exact ⟨hne p hp (a1, ot) (.tail _ (.tail _ (.head _))), hne p hp (a2, op) (.tail _ (.head _)), hne p hp (a3, oj) (.head _)⟩
  refine ⟨fun p hp => ?_, hD, fun p hp => ?_⟩
  · rcases List.mem_cons.mp hp with rfl | hp
    · exact N _ (.tail _ (.tail _ (.tail _ (.head _))))
    rcases List.mem_cons.mp hp with rfl | hp
    · exact N _ (.tail _ (.head _))
    rcases List.mem_cons.mp hp with rfl | hp
    · exact N _ (.tail _ (.tail _ (.head _)))
    rcases List.mem_cons.mp hp with rfl | hp
    · exact N _ (.head _)
    · exact N _ (.tail _ (.tail _ (.tail _ (.tail _ hp))))
  · rcases List.mem_cons.mp hp with rfl | hp
    · exact h13.symm
    rcases List.mem_cons.mp hp with rfl | hp
    · exact h12.symm
    · exact (hD p hp).1
theorem strs_rev {vs : List Value} {ws : List Str} (h : StrsAre vs ws) : StrsAre vs.reverse ws.reverse := by
  induction h with
  | nil => exact .nil
  | cons y t _ ih => rw [List.reverse_cons, List.reverse_cons]; exact ih.append' (.cons _ _ .nil)
theorem law_ledger {h₀ h : Heap} {L D2 D3 a1 a2 a3 : Addr} {oj op ot o2 o3 : Obj} {E : List (Addr × Obj)} (N : News h₀ L h ((D3, o3) :: (a1, ot) :: (a3, oj) :: (a2, op) :: (D2, o2) :: E))
    (hne : ∀ p ∈ (D2, o2) :: E, p.1 ≠ a1 ∧ p.1 ≠ a2 ∧ p.1 ≠ a3) (off : LCg.Off1 D3 ((a1, ot) :: (a3, oj) :: (a2, op) :: (D2, o2) :: E)) :
    ∃ E3, E3 = (D3, o3) :: (D2, o2) :: E ∧ (D3, o3) ∈ E3 ∧ (D2, o2) ∈ E3 ∧ News h₀ L h ((a2, op) :: (a3, oj) :: (a1, ot) :: E3) ∧ (∀ p ∈ E3, p.1 ≠ a1 ∧ p.1 ≠ a2 ∧ p.1 ≠ a3) ∧ ∀ p ∈ E, p ∈ E3 := by
  have m := off1_mem off
  refine ⟨_, rfl, .head _, .tail _ (.head _), fun p hp => ?_, fun p hp => ?_, fun p hp => .tail _ (.tail _ hp)⟩
  · rcases List.mem_cons.mp hp with rfl | hp
    · exact N _ (.tail _ (.tail _ (.tail _ (.head _))))
    rcases List.mem_cons.mp hp with rfl | hp
    · exact N _ (.tail _ (.tail _ (.head _)))
    rcases List.mem_cons.mp hp with rfl | hp
    · exact N _ (.tail _ (.head _))
    rcases List.mem_cons.mp hp with rfl | hp
    · exact N _ (.head _)
    · exact N _ (.tail _ (.tail _ (.tail _ (.tail _ hp))))
  · rcases List.mem_cons.mp hp with rfl | hp
    · exact ⟨(m (a1, ot) (.head _)).symm, (m (a2, op) (.tail _ (.tail _ (.head _)))).symm, (m (a3, oj) (.tail _ (.head _))).symm⟩
    · exact hne p hp
theorem law_front {h₀ h : Heap} {L : Addr} {c1 c2 c3 r1 r2 r3 r4 : Addr × Obj} {E : List (Addr × Obj)} (N : News h₀ L h (c1 :: c2 :: c3 :: E)) (h1 : r1 ∈ E) (h2 : r2 ∈ E) (h3 : r3 ∈ E) (h4 : r4 ∈ E) :
    News h₀ L h (c1 :: c2 :: c3 :: r1 :: r2 :: r3 :: r4 :: E) := by
  intro p hp
  refine N p ?_
  simp only [List.mem_cons] at hp ⊢
  rcases hp with h | h | h | h | h | h | h | h
  · exact .inl h
  · exact .inr (.inl h)
  · exact .inr (.inr (.inl h))
  · exact .inr (.inr (.inr (h ▸ h1)))
  · exact .inr (.inr (.inr (h ▸ h2)))
  · exact .inr (.inr (.inr (h ▸ h3)))
  · exact .inr (.inr (.inr (h ▸ h4)))
  · exact .inr (.inr (.inr h))
theorem law_turn {h₀ h : Heap} {L : Addr} {c1 c2 c3 r1 r2 r3 r4 b l : Addr × Obj} {own E : List (Addr × Obj)} (N : News h₀ L h (own ++ c1 :: c2 :: c3 :: r1 :: r2 :: r3 :: r4 :: E)) (hb : b ∈ E) (hl : l ∈ E) :
    News h₀ L h (c1 :: c2 :: c3 :: r1 :: r2 :: r3 :: r4 :: b :: l :: (own ++ E)) := by
  intro p hp
  refine N p ?_
  simp only [List.mem_cons, List.mem_append] at hp ⊢
  rcases hp with h | h | h | h | h | h | h | h | h | h | h
  · exact .inr (.inl h)
  · exact .inr (.inr (.inl h))
  · exact .inr (.inr (.inr (.inl h)))
  · exact .inr (.inr (.inr (.inr (.inl h))))
  · exact .inr (.inr (.inr (.inr (.inr (.inl h)))))
  · exact .inr (.inr (.inr (.inr (.inr (.inr (.inl h))))))
  · exact .inr (.inr (.inr (.inr (.inr (.inr (.inr (.inl h)))))))
  · exact .inr (.inr (.inr (.inr (.inr (.inr (.inr (.inr (h ▸ hb))))))))
  · exact .inr (.inr (.inr (.inr (.inr (.inr (.inr (.inr (h ▸ hl))))))))
  · exact .inl h
  · exact .inr (.inr (.inr (.inr (.inr (.inr (.inr (.inr h)))))))
theorem law_path_ne {I a1 a2 a3 : Addr} {oj op ot : Obj} {r1 r2 r3 r4 b l : Addr × Obj} {own E F : List (Addr × Obj)} (hne : ∀ p ∈ E, p.1 ≠ a1 ∧ p.1 ≠ a2 ∧ p.1 ≠ a3) (h1 : r1 ∈ E) (h2 : r2 ∈ E) (h3 : r3 ∈ E) (h4 : r4 ∈ E) (hb : b ∈ E) (hl : l ∈ E)
    (hoff : ∀ p ∈ (a2, op) :: F, p.1 ≠ I) (hown : ∀ p ∈ own, p.1 = I) (h12 : a1 ≠ a2 := by exact Nat.ne_of_lt (by omega)) (h32 : a3 ≠ a2 := by exact Nat.ne_of_gt (by omega)) : ∀ p ∈ (a3, oj) :: (a1, ot) :: r1 :: r2 :: r3 :: r4 :: b :: l :: (own ++ E), p.1 ≠ a2 := by
  intro p hp
  simp only [List.mem_cons, List.mem_append] at hp
  rcases hp with rfl | rfl | rfl | rfl | rfl | rfl | rfl | rfl | h | h
  · exact h32
  · exact h12
  · exact (hne _ h1).2.1
  · exact (hne _ h2).2.1
  · exact (hne _ h3).2.1
  · exact (hne _ h4).2.1
  · exact (hne _ hb).2.1
  · exact (hne _ hl).2.1
  · rw [hown p h]; exact (hoff _ (.head _)).symm
  · exact (hne _ h).2.1
theorem fresh_ne {h₀ h : Heap} {L a b : Addr} {o : Obj} {news : List (Addr × Obj)} (N : News h₀ L h news) (hm : (a, o) ∈ news) (fr : h.get? b = none) : b ≠ a := by
  intro e
  have := (N _ hm).1
  dsimp only at this
  rw [← e, fr] at this
  cases this
theorem law_j {h₀ h : Heap} {L : Addr} {p1 p2 c2 c3 : Addr × Obj} {rest : List (Addr × Obj)} (N : News h₀ L h (p1 :: p2 :: c2 :: c3 :: rest)) : News h₀ L h (c3 :: p2 :: c2 :: rest) := by
  intro p hp
  refine N p ?_
  simp only [List.mem_cons] at hp ⊢
  rcases hp with h | h | h | h
  · exact .inr (.inr (.inr (.inl h)))
  · exact .inr (.inl h)
  · exact .inr (.inr (.inl h))
  · exact .inr (.inr (.inr (.inr h)))
theorem law_j_ne {I a1 a2 a3 : Addr} {oj op ot : Obj} {f r1 r2 r3 r4 b l q : Addr × Obj} {own E F : List (Addr × Obj)} (hf : f.1 ≠ a3) (hne : ∀ p ∈ E, p.1 ≠ a1 ∧ p.1 ≠ a2 ∧ p.1 ≠ a3) (h1 : r1 ∈ E) (h2 : r2 ∈ E) (h3 : r3 ∈ E) (h4 : r4 ∈ E) (hb : b ∈ E) (hl : l ∈ E)
    (hoff : ∀ p ∈ q :: (a3, oj) :: F, p.1 ≠ I) (hown : ∀ p ∈ own, p.1 = I) (h13 : a1 ≠ a3 := by exact Nat.ne_of_lt (by omega)) (h23 : a2 ≠ a3 := by exact Nat.ne_of_lt (by omega)) : ∀ p ∈ f :: (a2, op) :: (a1, ot) :: r1 :: r2 :: r3 :: r4 :: b :: l :: (own ++ E), p.1 ≠ a3 := by
  intro p hp
  simp only [List.mem_cons, List.mem_append] at hp
  rcases hp with rfl | rfl | rfl | rfl | rfl | rfl | rfl | rfl | rfl | h | h
  · exact hf
  · exact h23
  · exact h13
  · exact (hne _ h1).2.2
  · exact (hne _ h2).2.2
  · exact (hne _ h3).2.2
  · exact (hne _ h4).2.2
  · exact (hne _ hb).2.2
  · exact (hne _ hl).2.2
  · rw [hown p h]; exact (hoff _ (.tail _ (.head _))).symm
  · exact (hne _ h).2.2
theorem law_close {h₀ h : Heap} {L : Addr} {c1 c2 c3 f r1 r2 r3 r4 b l : Addr × Obj} {own E : List (Addr × Obj)} (N : News h₀ L h (c2 :: f :: c1 :: c3 :: r1 :: r2 :: r3 :: r4 :: b :: l :: (own ++ E))) : News h₀ L h (own ++ c1 :: c2 :: c3 :: r1 :: r2 :: r3 :: r4 :: E) := by
  intro p hp
  refine N p ?_
  simp only [List.mem_cons, List.mem_append] at hp ⊢
  rcases hp with h | h | h | h | h | h | h | h | h
  · exact .inr (.inr (.inr (.inr (.inr (.inr (.inr (.inr (.inr (.inr (.inl h))))))))))
  · exact .inr (.inr (.inl h))
  · exact .inl h
  · exact .inr (.inr (.inr (.inl h)))
  · exact .inr (.inr (.inr (.inr (.inl h))))
  · exact .inr (.inr (.inr (.inr (.inr (.inl h)))))
  · exact .inr (.inr (.inr (.inr (.inr (.inr (.inl h))))))
  · exact .inr (.inr (.inr (.inr (.inr (.inr (.inr (.inl h)))))))
  · exact .inr (.inr (.inr (.inr (.inr (.inr (.inr (.inr (.inr (.inr (.inr h))))))))))
theorem law_off {I a2 a3 : Addr} {o2 o3 o2' o3' : Obj} {F : List (Addr × Obj)} (h : ∀ p ∈ (a2, o2) :: (a3, o3) :: F, p.1 ≠ I) : ∀ p ∈ (a2, o2') :: (a3, o3') :: F, p.1 ≠ I := by
  intro p hp
  rcases List.mem_cons.mp hp with rfl | hp
  · exact h (a2, o2) (.head _)
  rcases List.mem_cons.mp hp with rfl | hp
  · exact h (a3, o3) (.tail _ (.head _))
  · exact h p (.tail _ (.tail _ hp))
theorem row_weight {ws : List Str} (r : Row ws) : (ws.map (·.length)).sum + ws.length ≤ 1048576 := by
  have h : ∀ l : List Str, (∀ x ∈ l, x.length ≤ 20) → (l.map (·.length)).sum ≤ 20 * l.length := by
    intro l
    induction l with
    | nil => intro _; simp
    | cons a t ih =>
      intro hl
      have h1 := hl a (List.mem_cons_self ..)
      have h2 := ih fun x hx => hl x (List.mem_cons_of_mem _ hx)
      simp only [List.map_cons, List.sum_cons, List.length_cons]
      omega
  have := h ws r.len
  have := r.n
  omega
theorem strs_uncons {vs : List Value} {ws : List Str} (h : StrsAre vs ws) (hp : 0 < ws.length) : ∃ x t vr wr, vs = .str x t :: vr ∧ ws = x :: wr ∧ StrsAre vr wr := by
  cases h with
  | nil => simp at hp
  | cons x t h => exact ⟨_, _, _, _, rfl, rfl, h⟩
theorem Fr.map {h₀ h : Heap} {L : Addr} {m m' : Str → Option Value} (F : Fr h₀ L h m) (e : m = m') : Fr h₀ L h m' := e ▸ F
end Mine
end

section
open PySem
set_option Elab.async false
set_option maxRecDepth 100000
set_option maxHeartbeats 400000
namespace Mine
/-- labels, each with a sign ahead -/
def sp (c : Nat) (ls : List (List Nat)) : List Nat := ls.flatMap (c :: ·)
theorem sp_cons (c : Nat) (a : List Nat) (r : List (List Nat)) : sp c (a :: r) = c :: (a ++ sp c r) := by simp [sp]
theorem sp_nil (c : Nat) : sp c [] = [] := rfl
theorem sp_app (c : Nat) (a b : List (List Nat)) : sp c (a ++ b) = sp c a ++ sp c b := by simp [sp]
/-- a label ends where the sign stands -/
theorem split_at {c : Nat} {a b x y : List Nat} (ha : c ∉ a) (hb : c ∉ b) (h : a ++ c :: x = b ++ c :: y) : a = b ∧ x = y := by
  induction a generalizing b with
  | nil =>
    cases b with
    | nil => simp at h; exact ⟨rfl, h⟩
    | cons q t => simp at h; simp [h.1] at hb
  | cons p s ih =>
    cases b with
    | nil => simp at h; simp [h.1] at ha
    | cons q t =>
      simp at h ha hb
      obtain ⟨e1, e2⟩ := ih ha.2 hb.2 h.2
      exact ⟨by rw [h.1, e1], e2⟩
theorem pre_free {c : Nat} {d w x : List Nat} (hd : c ∉ d) (h : d <+: w ++ c :: x) : d <+: w := by
  induction d generalizing w with
  | nil => exact List.nil_prefix
  | cons p s ih =>
    simp at hd
    cases w with
    | nil =>
      simp [List.cons_prefix_cons] at h
      exact absurd h.1.symm hd.1
    | cons q t =>
      simp [List.cons_prefix_cons] at h ⊢
      exact ⟨h.1, ih hd.2 h.2⟩
theorem pre_last {c : Nat} {d w : List Nat} {r : List (List Nat)} (hd : c ∉ d) : d <+: w ++ sp c r ↔ d <+: w := by
  constructor
  · intro h
    cases r with
    | nil => simpa [sp] using h
    | cons a r => rw [sp_cons] at h; exact pre_free hd h
  · exact fun h => h.trans (List.prefix_append ..)
theorem pre_more {c : Nat} {d w x y : List Nat} (hd : c ∉ d) (hw : c ∉ w) (h : d ++ c :: x <+: w ++ c :: y) : d = w ∧ x <+: y := by
  obtain ⟨t, e⟩ := h
  rw [List.append_assoc, List.cons_append] at e
  obtain ⟨e1, e2⟩ := split_at hd hw e
  exact ⟨e1, ⟨t, e2⟩⟩
theorem pre_over {c : Nat} {d w x : List Nat} (hw : c ∉ w) : ¬ d ++ c :: x <+: w := by
  rintro ⟨t, e⟩
  apply hw
  rw [← e]
  simp
def hit (ws ds : List (List Nat)) : Prop := ds.length ≤ ws.length ∧ ws.take (ds.length - 1) = ds.take (ds.length - 1) ∧ ds.getD (ds.length - 1) [] <+: ws.getD (ds.length - 1) []
theorem sp_pre {c : Nat} : ∀ {ds ws : List (List Nat)}, ds ≠ [] → (∀ d ∈ ds, c ∉ d) → (∀ w ∈ ws, c ∉ w) → (sp c ds <+: sp c ws ↔ hit ws ds)
  | [], _, h, _, _ => absurd rfl h
  | d :: r, [], _, _, _ => by
    rw [sp_cons]
    simp [sp, hit]
  | [d], w :: s, _, hd, hw => by
    have h1 := hd d (by simp)
    rw [sp_cons, sp_cons, List.cons_prefix_cons, sp_nil, List.append_nil, pre_last h1]
    simp [hit]
  | d :: e :: r, w :: s, _, hd, hw => by
    have h1 := hd d (by simp)
    have h2 := hw w (by simp)
    have ih := sp_pre (c := c) (ds := e :: r) (ws := s) (by simp) (fun x hx => hd x (by simp at hx ⊢; exact .inr hx)) (fun x hx => hw x (by simp [hx]))
    have key : sp c (d :: e :: r) <+: sp c (w :: s) ↔ d = w ∧ sp c (e :: r) <+: sp c s := by
      rw [sp_cons c d, sp_cons c w, List.cons_prefix_cons]
      constructor
      · rintro ⟨_, h⟩
        cases s with
        | nil => rw [sp_nil, List.append_nil, sp_cons] at h; exact absurd h (pre_over h2)
        | cons a b =>
          rw [sp_cons, sp_cons c a] at h
          obtain ⟨e1, e2⟩ := pre_more h1 h2 h
          exact ⟨e1, by rw [sp_cons, sp_cons c a, List.cons_prefix_cons]; exact ⟨rfl, e2⟩⟩
      · rintro ⟨rfl, h⟩
        exact ⟨rfl, (List.prefix_append_right_inj d).mpr h⟩
    rw [key, ih]
    unfold hit
    simp
    constructor
    · rintro ⟨rfl, h1, h2, h3⟩
      exact ⟨h1, ⟨rfl, h2⟩, h3⟩
    · rintro ⟨h1, ⟨e1, h2⟩, h3⟩
      exact ⟨e1.symm, h1, h2, h3⟩
theorem sp_inj {c : Nat} : ∀ {a b : List (List Nat)}, (∀ d ∈ a, c ∉ d) → (∀ w ∈ b, c ∉ w) → sp c a = sp c b → a = b
  | [], [], _, _, _ => rfl
  | [], w :: s, _, _, h => by rw [sp_cons] at h; simp [sp] at h
  | d :: r, [], _, _, h => by rw [sp_cons] at h; simp [sp] at h
  | d :: r, w :: s, hd, hw, h => by
    have h1 := hd d (by simp)
    have h2 := hw w (by simp)
    have ih := sp_inj (c := c) (a := r) (b := s) (fun x hx => hd x (by simp [hx])) (fun x hx => hw x (by simp [hx]))
    rw [sp_cons, sp_cons] at h
    have h := List.cons.inj h |>.2
    cases r with
    | nil =>
      cases s with
      | nil => simp [sp] at h; rw [h]
      | cons p q => rw [sp_nil, List.append_nil, sp_cons] at h; exact absurd (h ▸ by simp) h1
    | cons p q =>
      cases s with
      | nil => rw [sp_nil, List.append_nil, sp_cons] at h; exact absurd (h ▸ by simp) h2
      | cons u v =>
        rw [sp_cons, sp_cons] at h
        obtain ⟨e1, e2⟩ := split_at h1 h2 h
        rw [e1, ih (by rw [sp_cons, sp_cons, e2])]
/-- where the sign stands, a label begins -/
theorem sp_drop {c : Nat} : ∀ {ws : List (List Nat)} {i : Nat} {x : List Nat}, (∀ w ∈ ws, c ∉ w) → (sp c ws).drop i = c :: x → ∃ m, m < ws.length ∧ (sp c ws).drop i = sp c (ws.drop m) ∧ i = (sp c (ws.take m)).length
  | [], i, x, _, h => by simp [sp] at h
  | w :: s, 0, x, hw, h => ⟨0, by simp, by simp, by simp [sp]⟩
  | w :: s, i + 1, x, hw, h => by
    have h2 := hw w (by simp)
    rw [sp_cons, List.drop_succ_cons] at h
    rcases Nat.lt_or_ge i w.length with q | q
    · rw [List.drop_append_of_le_length (Nat.le_of_lt q), List.drop_eq_getElem_cons q] at h
      rw [List.cons_append] at h
      exact absurd ((List.cons.inj h).1 ▸ List.getElem_mem q) h2
    · obtain ⟨j, rfl⟩ : ∃ j, i = w.length + j := ⟨i - w.length, by omega⟩
      rw [List.drop_append, List.drop_of_length_le (by omega), List.nil_append, show w.length + j - w.length = j by omega] at h
      obtain ⟨m, hm, e1, e2⟩ := sp_drop (ws := s) (fun x hx => hw x (by simp [hx])) h
      refine ⟨m + 1, by simp; omega, ?_, ?_⟩
      · rw [sp_cons, List.drop_succ_cons, List.drop_append, List.drop_of_length_le (by omega), List.nil_append, show w.length + j - w.length = j by omega, e1]
        rfl
      · rw [List.take_succ_cons, sp_cons]
        simp
        omega
theorem sp_occ {c : Nat} {ws ds : List (List Nat)} {i : Nat} (hn : ds ≠ []) (hw : ∀ w ∈ ws, c ∉ w) (h : sp c ds <+: (sp c ws).drop i) : ∃ m, m < ws.length ∧ sp c ds <+: sp c (ws.drop m) ∧ i = (sp c (ws.take m)).length := by
  cases ds with
  | nil => exact absurd rfl hn
  | cons d r =>
    obtain ⟨x, hx⟩ : ∃ x, (sp c ws).drop i = c :: x := by
      rw [sp_cons] at h
      obtain ⟨t, e⟩ := h
      exact ⟨_, e.symm⟩
    obtain ⟨m, hm, e1, e2⟩ := sp_drop hw hx
    exact ⟨m, hm, e1 ▸ h, e2⟩
theorem sp_drop_at {c : Nat} (ws : List (List Nat)) (m : Nat) : (sp c ws).drop (sp c (ws.take m)).length = sp c (ws.drop m) := by
  conv => lhs; rw [← List.take_append_drop m ws, sp_app]
  simp
end Mine
end

section
open PySem PySem.W PyProof.Rows PySem.StrLaws PySem.Builtin PySem.Builtin.Str
set_option Elab.async false
set_option maxRecDepth 100000
set_option maxHeartbeats 400000
namespace Mine
/-- the signs of labels -/
def lcs (ls : List Str) : List (List Nat) := ls.map lc
theorem lcs_cons (a : Str) (r : List Str) : lcs (a :: r) = lc a :: lcs r := rfl
theorem lcs_app (a b : List Str) : lcs (a ++ b) = lcs a ++ lcs b := by simp [lcs]
theorem slashed_sp (ls : List Str) : slashed ls = sp 47 (lcs ls) := by simp [slashed, sp, lcs, List.flatMap_map]
theorem voc47 {ls : List Str} (h : ∀ b ∈ ls, b ∈ vocab) : ∀ w ∈ lcs ls, 47 ∉ w := by
  intro w hw
  obtain ⟨x, hx, rfl⟩ := List.mem_map.mp hw
  exact (lab_no (h x hx)).1
theorem voc46 {ls : List Str} (h : ∀ b ∈ ls, b ∈ vocab) : ∀ w ∈ lcs ls, 46 ∉ w := by
  intro w hw
  obtain ⟨x, hx, rfl⟩ := List.mem_map.mp hw
  exact (lab_no (h x hx)).2.1
theorem lcs_inj : ∀ {a b : List Str}, lcs a = lcs b → a = b
  | [], [], _ => rfl
  | [], _ :: _, h => by simp [lcs] at h
  | _ :: _, [], h => by simp [lcs] at h
  | x :: a, y :: b, h => by
    simp [lcs] at h
    rw [lc_inj h.1, lcs_inj h.2]
/-- labels with a dot between -/
abbrev dots (ws : List Str) : Str := Txt.join (Str.ofString ".") ws
theorem lc_dots : ∀ (ws : List Str), ws ≠ [] → 46 :: lc (dots ws) = sp 46 (lcs ws)
  | [], h => absurd rfl h
  | a :: r, _ => by
    show 46 :: (r.foldl (fun acc p => acc ++ (Str.ofString ".").cps ++ p.cps) a.cps).toList = _
    have key : ∀ (r : List Str) (acc : Array Nat), (r.foldl (fun acc p => acc ++ (Str.ofString ".").cps ++ p.cps) acc).toList = acc.toList ++ sp 46 (lcs r) := by
      intro r
      induction r with
      | nil => intro acc; simp [sp, lcs]
      | cons b t ih =>
        intro acc
        rw [List.foldl_cons, ih, lcs_cons, sp_cons]
        simp [show (Str.ofString ".").cps.toList = [46] from lc_dot, lc]
    rw [key, lcs_cons, sp_cons]
    rfl
theorem vocab_asc : ∀ x ∈ vocab, (lc x).all (fun c => decide (c < 128)) = true := by decide +kernel
theorem lab_asc {x : Str} (h : x ∈ vocab) : ∀ c ∈ lc x, c < 128 := fun c hc => of_decide_eq_true (List.all_eq_true.mp (vocab_asc x h) c hc)
theorem lc_lower {x : Str} (h : ∀ c ∈ lc x, c < 128) : lc (Txt.lower x) = (lc x).map lo1 := by
  rw [lower_ascii h]; simp [lc]
theorem lc_upper {x : Str} (h : ∀ c ∈ lc x, c < 128) : lc (Txt.upper x) = (lc x).map up1 := by
  rw [upper_ascii h]; simp [lc]
theorem lo_up (c : Nat) : lo1 (up1 c) = lo1 c := by
  unfold lo1 up1
  split <;> (try split) <;> (try split) <;> omega
theorem up_asc {c : Nat} (h : c < 128) : up1 c < 128 := by
  unfold up1
  split <;> omega
theorem sp_asc {ls : List Str} (h : ∀ b ∈ ls, b ∈ vocab) : ∀ c ∈ sp 46 (lcs ls), c < 128 := by
  intro c hc
  obtain ⟨w, hw, hc⟩ := List.mem_flatMap.mp hc
  obtain ⟨x, hx, rfl⟩ := List.mem_map.mp hw
  rcases List.mem_cons.mp hc with rfl | hc
  · decide
  · exact lab_asc (h x hx) c hc
theorem dots_asc {ws : List Str} (h : ∀ b ∈ ws, b ∈ vocab) (hn : ws ≠ []) : ∀ c ∈ lc (dots ws), c < 128 := fun c hc =>
  sp_asc h c (by rw [← lc_dots ws hn]; exact .tail _ hc)
theorem sp_low {ls : List Str} (h : ∀ b ∈ ls, b ∈ vocab) : (sp 46 (lcs ls)).map lo1 = sp 46 (lcs (ls.map Txt.lower)) := by
  induction ls with
  | nil => rfl
  | cons a r ih =>
    have ha := h a (List.mem_cons_self ..)
    have ih := ih fun b hb => h b (List.mem_cons_of_mem _ hb)
    rw [lcs_cons, sp_cons, List.map_cons, List.map_append, ih, List.map_cons, lcs_cons, sp_cons, lc_lower (lab_asc ha)]
    rfl
theorem low_dots {ws : List Str} (h : ∀ b ∈ ws, b ∈ vocab) (hn : ws ≠ []) : Txt.lower (dots ws) = dots (ws.map Txt.lower) := by
  apply lc_inj
  have e := congrArg (List.map lo1) (lc_dots ws hn)
  rw [sp_low h, ← lc_dots _ (by simpa using hn), List.map_cons] at e
  rw [lc_lower (dots_asc h hn)]
  exact (List.cons.inj e).2
theorem low_up_dots {ws : List Str} (h : ∀ b ∈ ws, b ∈ vocab) (hn : ws ≠ []) : Txt.lower (Txt.upper (dots ws)) = dots (ws.map Txt.lower) := by
  rw [← low_dots h hn]
  apply lc_inj
  have ha := dots_asc h hn
  rw [lc_lower (by rw [lc_upper ha]; intro c hc; obtain ⟨d, hd, rfl⟩ := List.mem_map.mp hc; exact up_asc (ha d hd)), lc_upper ha, lc_lower ha, List.map_map]
  exact List.map_congr_left fun c _ => lo_up c
theorem dot_asc {ws : List Str} (h : ∀ b ∈ ws, b ∈ vocab) (hn : ws ≠ []) : ∀ c ∈ lc (Str.ofString "." ++ dots ws), c < 128 := by
  intro c hc
  rw [lc_app, lc_dot] at hc
  rcases List.mem_append.mp hc with hc | hc
  · simp at hc; omega
  · exact dots_asc h hn c hc
theorem lc_dom {ws : List Str} (hn : ws ≠ []) : lc (Str.ofString "." ++ dots ws) = sp 46 (lcs ws) := by
  rw [lc_app, lc_dot, ← lc_dots ws hn]; rfl
theorem low_dom {ws : List Str} (h : ∀ b ∈ ws, b ∈ vocab) (hn : ws ≠ []) : Txt.lower (Str.ofString "." ++ dots ws) = Str.ofString "." ++ dots (ws.map Txt.lower) := by
  apply lc_inj
  rw [lc_lower (dot_asc h hn), lc_dom hn, sp_low h, lc_dom (by simpa using hn)]
theorem dom_rest {ws : List Str} (hn : ws ≠ []) : Txt.slice (Str.ofString "." ++ dots ws) (some 1) none = dots ws := by
  apply lc_inj
  have e := lc_dom hn
  rw [← lc_dots ws hn] at e
  have hl := lc_len (Str.ofString "." ++ dots ws)
  rw [e] at hl
  simp at hl
  rw [lc_slice_from (by omega) (by omega), e]
  rfl

theorem sp_len {ls : List Str} (h : ∀ b ∈ ls, b ∈ vocab) : (sp 46 (lcs ls)).length ≤ 6 * ls.length := by
  induction ls with
  | nil => simp [sp, lcs]
  | cons a r ih =>
    have h1 := vocab_len a (h a (List.mem_cons_self ..))
    have ih := ih fun b hb => h b (List.mem_cons_of_mem _ hb)
    rw [lcs_cons, sp_cons, List.length_cons, List.length_append, lc_len, List.length_cons]
    omega
theorem dots_len {ws : List Str} (r : Row ws) : (dots ws).length ≤ 60 := by
  have h := sp_len r.v
  have hp := r.pos
  have hn := r.n
  rw [← lc_dots ws (List.length_pos_iff.mp hp), List.length_cons, lc_len] at h
  omega
theorem row_ne {ws : List Str} (r : Row ws) : ws ≠ [] := List.length_pos_iff.mp r.pos
/-- the first label, the rest -/
theorem dots_head {w : Str} {r : List Str} : lc (dots (w :: r)) = lc w ++ sp 46 (lcs r) := by
  have e := lc_dots (w :: r) (by simp)
  rw [lcs_cons, sp_cons] at e
  exact (List.cons.inj e).2
theorem lab_first {x : Str} (h : x ∈ vocab) : ∃ c B, lc x = c :: B ∧ c ≠ 46 := by
  cases e : lc x with
  | nil => exact absurd e (vocab_ne x h)
  | cons c B =>
    refine ⟨c, B, rfl, fun q => ?_⟩
    have := (lab_no h).2.1
    rw [e, q] at this
    simp at this
theorem dots_first {ws : List Str} (r : Row ws) : ∃ c B, lc (dots ws) = c :: B ∧ c ≠ 46 := by
  cases ws with
  | nil => exact absurd rfl (row_ne r)
  | cons w t =>
    obtain ⟨c, B, e, hc⟩ := lab_first (r.v w (List.mem_cons_self ..))
    exact ⟨c, B ++ sp 46 (lcs t), by rw [dots_head, e]; rfl, hc⟩
/-- the last label, what is ahead of it -/
theorem dots_last {i : List Str} {l : Str} (hi : i ≠ []) : lc (dots (i ++ [l])) = lc (dots i) ++ 46 :: lc l := by
  have e := lc_dots (i ++ [l]) (by simp)
  rw [lcs_app, sp_app, ← lc_dots i hi, List.cons_append] at e
  rw [(List.cons.inj e).2]
  simp [sp, lcs]
theorem dots_end {ws : List Str} (r : Row ws) : ∃ A c, lc (dots ws) = A ++ [c] ∧ c ≠ 46 := by
  rcases List.eq_nil_or_concat ws with e | ⟨i, l, e⟩
  · exact absurd e (row_ne r)
  · rw [List.concat_eq_append] at e
    subst e
    obtain ⟨A, c, e, hc, hc2⟩ := lab_last (r.v l (by simp))
    by_cases hi : i = []
    · subst hi
      refine ⟨A, c, ?_, hc2⟩
      rw [List.nil_append, dots_head, e]
      simp [sp, lcs]
    · exact ⟨lc (dots i) ++ 46 :: A, c, by rw [dots_last hi, e]; simp, hc2⟩
end Mine
end

section
open PySem PySem.W PyProof.Rows PySem.StrLaws PySem.Builtin PySem.Builtin.Str
set_option Elab.async false
set_option maxRecDepth 100000
set_option maxHeartbeats 400000
namespace Mine
theorem getD_lc (x : Str) (k : Nat) : x.cps.getD k 0 = (lc x).getD k 0 := by simp [lc]
theorem dn_full {text : Array Nat} : ∀ (n p : Nat), dn text n p = n ↔ ∀ k, k < n → Sre.isDigit (text.getD (p + k) 0) = true
  | 0, p => by simp [dn]
  | n + 1, p => by
    unfold dn
    have ih := dn_full (text := text) n (p + 1)
    have hle := dn_le (text := text) n (p + 1)
    by_cases h : Sre.isDigit (text.getD p 0) = true
    · rw [if_pos h]
      constructor
      · intro e k hk
        cases k with
        | zero => exact h
        | succ k =>
          have := ih.mp (by omega) k (by omega)
          rw [show p + (k + 1) = p + 1 + k by omega]; exact this
      · intro e
        have := ih.mpr fun k hk => by
          have := e (k + 1) (by omega)
          rw [show p + 1 + k = p + (k + 1) by omega]; exact this
        omega
    · rw [if_neg h]
      constructor
      · intro e; omega
      · intro e; exact absurd (e 0 (by omega)) h
theorem okAt_iff {x : Str} {q : Nat} : okAt x.cps q ↔ ∃ P D, lc x = P ++ 46 :: D ∧ P.length = q ∧ D ≠ [] ∧ ∀ c ∈ D, Sre.isDigit c = true := by
  unfold okAt
  have hs : x.cps.size = (lc x).length := by simp [lc]
  rw [hs, getD_lc, dn_full]
  constructor
  · rintro ⟨h1, h2, h3⟩
    refine ⟨(lc x).take q, (lc x).drop (q + 1), ?_, by simp; omega, ?_, ?_⟩
    · have hq : q < (lc x).length := by omega
      rw [List.getD_eq_getElem?_getD, List.getElem?_eq_getElem hq] at h2
      simp only [Option.getD_some] at h2
      rw [← h2, List.getElem_cons_drop, List.take_append_drop]
    · intro e
      have := congrArg List.length e
      simp at this
      omega
    · intro c hc
      obtain ⟨k, hk, rfl⟩ := List.mem_iff_getElem.mp hc
      simp at hk
      have := h3 k (by omega)
      rw [getD_lc, List.getD_eq_getElem?_getD, List.getElem?_eq_getElem (by omega)] at this
      simpa using this
  · rintro ⟨P, D, e, rfl, hD, hd⟩
    have hl : (lc x).length = P.length + 1 + D.length := by rw [e]; simp; omega
    have hDl := List.length_pos_iff.mpr hD
    refine ⟨by omega, by rw [e]; simp, fun k hk => ?_⟩
    rw [getD_lc, e]
    have : (P ++ 46 :: D).getD (P.length + 1 + k) 0 = D.getD k 0 := by
      rw [List.getD_eq_getElem?_getD, List.getD_eq_getElem?_getD, List.getElem?_append_right (by omega), show P.length + 1 + k - P.length = k + 1 by omega, List.getElem?_cons_succ]
    rw [this, List.getD_eq_getElem?_getD, List.getElem?_eq_getElem (by omega)]
    exact hd _ (List.getElem_mem _)
theorem vocab_dig : ∀ x ∈ vocab, (lc x).all Sre.isDigit = (x == Str.ofString "77") := by decide +kernel
theorem dot_nodig : Sre.isDigit 46 = false := by decide +kernel
theorem last_at {i : List Str} {l : Str} : (i ++ [l]).getD (-1 + (((i ++ [l]).length : Nat) : Int)).toNat Str.empty = l := by
  rw [show (-1 + (((i ++ [l]).length : Nat) : Int)).toNat = i.length by simp; omega]
  simp [List.getD_eq_getElem?_getD]
theorem ends_iff {ws : List Str} (r : Row ws) : endsV ws = true ↔ ∃ q, okAt (dots ws).cps q := by
  rcases List.eq_nil_or_concat ws with e | ⟨i, l, e⟩
  · exact absurd e (row_ne r)
  rw [List.concat_eq_append] at e
  subst e
  have hl := r.v l (by simp)
  have hi : ∀ b ∈ i, b ∈ vocab := fun b hb => r.v b (by simp [hb])
  by_cases hn : i = []
  · subst hn
    have e1 : endsV ([] ++ [l]) = false := by unfold endsV; simp
    rw [e1]
    simp only [Bool.false_eq_true, false_iff]
    rintro ⟨q, hq⟩
    obtain ⟨P, D, e, _⟩ := okAt_iff.mp hq
    rw [List.nil_append, dots_head] at e
    simp [sp, lcs] at e
    have := (lab_no hl).2.1
    rw [e] at this
    simp at this
  · have e1 : endsV (i ++ [l]) = (l == Str.ofString "77") := by
      unfold endsV
      rw [last_at, decide_eq_true (by have := List.length_pos_iff.mpr hn; simp; omega), Bool.true_and]
    rw [e1, ← vocab_dig l hl, List.all_eq_true]
    constructor
    · intro h
      exact ⟨_, okAt_iff.mpr ⟨lc (dots i), lc l, dots_last hn, rfl, vocab_ne l hl, h⟩⟩
    · rintro ⟨q, hq⟩
      obtain ⟨P, D, e, _, _, hd⟩ := okAt_iff.mp hq
      rw [dots_last hn] at e
      have e2 := congrArg List.reverse e
      simp at e2
      have hD : 46 ∉ D.reverse := fun q => by
        have := hd 46 (by simpa using q)
        rw [dot_nodig] at this
        cases this
      have hL : 46 ∉ (lc l).reverse := by simpa using (lab_no hl).2.1
      have := (split_at hL hD e2).1
      have := congrArg List.reverse this
      simp at this
      rw [this]
      exact hd
theorem item_first {x : Str} {c : Nat} {B : List Nat} (h : lc x = c :: B) : Txt.item x 0 = ⟨#[c]⟩ := by
  have hl := lc_len x
  rw [h] at hl
  simp at hl
  have g : x.cps[0]? = some c := by
    have : (lc x)[0]? = some c := by rw [h]; rfl
    simpa [lc] using this
  unfold Txt.item Txt.charAt
  rw [show seqIndex? 0 x.length = some 0 by unfold seqIndex?; simp; omega]
  simp [g]
theorem item_last {x : Str} {c : Nat} {A : List Nat} (h : lc x = A ++ [c]) : Txt.item x (-1) = ⟨#[c]⟩ := by
  have hl := lc_len x
  rw [h] at hl
  simp at hl
  have g : x.cps[A.length]? = some c := by
    have : (lc x)[A.length]? = some c := by rw [h]; simp
    simpa [lc] using this
  unfold Txt.item Txt.charAt
  rw [show seqIndex? (-1) x.length = some A.length by unfold seqIndex?; simp; omega]
  simp [g]
theorem one_ne_dot {c : Nat} (h : c ≠ 46) : ((⟨#[c]⟩ : Str) == Str.ofString ".") = false := by
  rw [beq_eq_false_iff_ne]
  intro e
  have := congrArg lc e
  rw [lc_dot] at this
  simp [lc] at this
  exact h this
theorem hdn_row {ws : List Str} (r : Row ws) : Hdn (dots ws) (endsV ws) where
  len := by have := dots_len r; omega
  ends := ends_iff r
  no10 := by
    intro i e
    rw [getD_lc] at e
    have hm : 10 ∈ lc (dots ws) := by
      rw [List.getD_eq_getElem?_getD] at e
      rcases Nat.lt_or_ge i (lc (dots ws)).length with q | q
      · rw [List.getElem?_eq_getElem q] at e
        simp only [Option.getD_some] at e
        rw [← e]; exact List.getElem_mem q
      · rw [List.getElem?_eq_none q] at e; cases e
    have hm2 : 10 ∈ sp 46 (lcs ws) := by rw [← lc_dots ws (row_ne r)]; exact .tail _ hm
    obtain ⟨w, hw, hc⟩ := List.mem_flatMap.mp hm2
    obtain ⟨x, hx, rfl⟩ := List.mem_map.mp hw
    rcases List.mem_cons.mp hc with h | h
    · cases h
    · exact (lab_no (r.v x hx)).2.2 h
  ne := by
    obtain ⟨c, B, e, _⟩ := dots_first r
    rw [beq_eq_false_iff_ne]
    intro q
    rw [q] at e
    rw [show lc (Str.ofString "") = [] by decide +kernel] at e
    cases e
  first := by
    obtain ⟨c, B, e, hc⟩ := dots_first r
    rw [item_first e]
    exact one_ne_dot hc
  last := by
    obtain ⟨A, c, e, hc⟩ := dots_end r
    rw [item_last e]
    exact one_ne_dot hc
theorem vocab_77 : ∀ x ∈ vocab, (Txt.lower x == Str.ofString "77") = (x == Str.ofString "77") := by decide +kernel
theorem ends_low {ws : List Str} (r : Row ws) : endsV (ws.map Txt.lower) = endsV ws := by
  rcases List.eq_nil_or_concat ws with e | ⟨i, l, e⟩
  · exact absurd e (row_ne r)
  rw [List.concat_eq_append] at e
  subst e
  unfold endsV
  rw [List.map_append, List.map_cons, List.map_nil, last_at, last_at, vocab_77 l (r.v l (by simp))]
  simp
end Mine
end

section
open PySem PySem.W PyProof.Rows PySem.StrLaws PySem.Builtin PySem.Builtin.Str
set_option Elab.async false
set_option maxRecDepth 100000
set_option maxHeartbeats 400000
namespace Mine
theorem lcs_len (ws : List Str) : (lcs ws).length = ws.length := by simp [lcs]
theorem lcs_drop (ws : List Str) (m : Nat) : (lcs ws).drop m = lcs (ws.drop m) := by simp [lcs]
theorem lcs_take (ws : List Str) (m : Nat) : (lcs ws).take m = lcs (ws.take m) := by simp [lcs]
theorem lc_empty : lc Str.empty = [] := rfl
theorem lcs_getD (ws : List Str) (k : Nat) : (lcs ws).getD k [] = lc (ws.getD k Str.empty) := by
  rw [List.getD_eq_getElem?_getD, List.getD_eq_getElem?_getD, lcs, List.getElem?_map]
  cases ws[k]? <;> rfl
/-- the row of ds lies in ws from the label m on -/
def LiesAt (ws ds : List Str) (m : Nat) : Prop := hit (lcs (ws.drop m)) (lcs ds)
theorem lies_hit {ws ds : List Str} {i : Nat} (hd : ds ≠ []) : hitAt ws ds i = true ∧ i < ws.length - ds.length ↔ LiesAt ws ds (1 + i) ∧ 1 + i < ws.length := by
  have hp := List.length_pos_iff.mpr hd
  unfold hitAt LiesAt hit
  rw [lcs_len, lcs_len, lcs_take, lcs_take, lcs_getD, lcs_getD, Bool.and_eq_true, decide_eq_true_eq, starts_iff]
  have e : (ws.drop (1 + i)).getD (ds.length - 1) Str.empty = ws.getD (i + ds.length) Str.empty := by
    rw [List.getD_eq_getElem?_getD, List.getD_eq_getElem?_getD, List.getElem?_drop, show 1 + i + (ds.length - 1) = i + ds.length by omega]
  rw [e, List.length_drop]
  constructor
  · rintro ⟨⟨h1, h2⟩, h3⟩
    exact ⟨⟨by omega, by rw [h1], h2⟩, by omega⟩
  · rintro ⟨⟨h1, h2, h3⟩, h4⟩
    exact ⟨⟨lcs_inj h2, h3⟩, by omega⟩
theorem lies_iff {ws ds : List Str} (hd : ds ≠ []) : liesV ws ds = true ↔ ∃ m, 1 ≤ m ∧ m < ws.length ∧ LiesAt ws ds m := by
  unfold liesV
  rw [List.any_eq_true]
  constructor
  · rintro ⟨i, hi, h⟩
    obtain ⟨h1, h2⟩ := (lies_hit hd).mp ⟨h, List.mem_range.mp hi⟩
    exact ⟨1 + i, by omega, h2, h1⟩
  · rintro ⟨m, h0, h1, h2⟩
    obtain ⟨i, rfl⟩ : ∃ i, m = 1 + i := ⟨m - 1, by omega⟩
    obtain ⟨h3, h4⟩ := (lies_hit hd).mpr ⟨h2, h1⟩
    exact ⟨i, List.mem_range.mpr h4, h3⟩
theorem lies_sp {c : Nat} {ws ds : List Str} {m : Nat} (hd : ds ≠ []) (h1 : ∀ w ∈ lcs ws, c ∉ w) (h2 : ∀ w ∈ lcs ds, c ∉ w) : LiesAt ws ds m ↔ sp c (lcs ds) <+: sp c (lcs (ws.drop m)) := by
  unfold LiesAt
  rw [sp_pre (by cases ds with | nil => exact absurd rfl hd | cons a r => simp [lcs]) h2 (fun w hw => h1 w (by rw [← lcs_drop] at hw; exact List.mem_of_mem_drop hw))]
theorem at_pre {x y : Str} {i : Nat} : At x y x.length i ↔ lc y <+: (lc x).drop i ∧ i + y.length ≤ x.length := by
  rw [at_iff]
  constructor
  · rintro ⟨h1, h2⟩
    exact ⟨by rw [← h2]; exact List.take_prefix .., h1⟩
  · rintro ⟨h1, h2⟩
    refine ⟨h2, ?_⟩
    have := List.prefix_iff_eq_take.mp h1
    rw [lc_len] at this
    exact this.symm
theorem pre_at {x y : Str} {i : Nat} (hi : i ≤ x.length) (h : lc y <+: (lc x).drop i) : At x y x.length i := by
  refine at_pre.mpr ⟨h, ?_⟩
  have := h.length_le
  rw [List.length_drop, lc_len, lc_len] at this
  omega
/-- where the domain stands in the host -/
theorem at_lies {ws ds : List Str} (r : Row ws) (r2 : Row ds) {i : Nat} (h : At (dots ws) (Str.ofString "." ++ dots ds) (dots ws).length i) :
    ∃ m, 1 ≤ m ∧ m < ws.length ∧ LiesAt ws ds m ∧ i + 1 = (sp 46 (lcs (ws.take m))).length := by
  obtain ⟨h1, _⟩ := at_pre.mp h
  rw [lc_dom (row_ne r2)] at h1
  have e : (lc (dots ws)).drop i = (sp 46 (lcs ws)).drop (i + 1) := by rw [← lc_dots ws (row_ne r)]; rfl
  rw [e] at h1
  obtain ⟨m, h3, h4, h5⟩ := sp_occ (by have := row_ne r2; intro q; exact this (by simpa [lcs] using q)) (voc46 r.v) h1
  rw [lcs_len] at h3
  rw [lcs_drop] at h4
  rw [lcs_take] at h5
  refine ⟨m, ?_, h3, (lies_sp (row_ne r2) (voc46 r.v) (voc46 r2.v)).mpr h4, h5⟩
  rcases Nat.eq_zero_or_pos m with q | q
  · subst q; simp [sp, lcs] at h5
  · exact q
theorem lies_at {ws ds : List Str} (r : Row ws) (r2 : Row ds) {m : Nat} (h0 : 1 ≤ m) (h1 : m < ws.length) (h : LiesAt ws ds m) : ∃ i, At (dots ws) (Str.ofString "." ++ dots ds) (dots ws).length i ∧ i + 1 = (sp 46 (lcs (ws.take m))).length := by
  have h2 := (lies_sp (row_ne r2) (voc46 r.v) (voc46 r2.v)).mp h
  obtain ⟨i, hi⟩ : ∃ i, (sp 46 (lcs (ws.take m))).length = i + 1 := by
    cases ws with
    | nil => simp at h1
    | cons a t =>
      obtain ⟨k, rfl⟩ : ∃ k, m = k + 1 := ⟨m - 1, by omega⟩
      rw [List.take_succ_cons, lcs_cons, sp_cons]
      exact ⟨_, rfl⟩
  have e : (lc (dots ws)).drop i = (sp 46 (lcs ws)).drop (i + 1) := by rw [← lc_dots ws (row_ne r)]; rfl
  have e2 := sp_drop_at (c := 46) (lcs ws) m
  rw [lcs_take, lcs_drop, hi] at e2
  have hle : i ≤ (dots ws).length := by
    have h3 : (sp 46 (lcs (ws.take m))).length ≤ (sp 46 (lcs ws)).length := by
      conv => rhs; rw [← List.take_append_drop m ws, lcs_app, sp_app, List.length_append]
      omega
    rw [hi, ← lc_dots ws (row_ne r), List.length_cons, lc_len] at h3
    omega
  exact ⟨i, pre_at hle (by rw [lc_dom (row_ne r2), e, e2]; exact h2), hi.symm⟩
theorem rfind_lies {ws ds : List Str} (r : Row ws) (r2 : Row ds) : decide (Txt.rfind (dots ws) (Str.ofString "." ++ dots ds) ≠ -1 ∧ Txt.rfind (dots ws) (Str.ofString "." ++ dots ds) ≠ 0) = liesV ws ds := by
  rw [Bool.eq_iff_iff, decide_eq_true_eq, lies_iff (row_ne r2)]
  unfold Txt.rfind
  constructor
  · rintro ⟨h1, h2⟩
    rcases last_spec (dots ws) (Str.ofString "." ++ dots ds) with ⟨e, _⟩ | ⟨i, e, h, _⟩
    · rw [e] at h1; exact absurd rfl h1
    · obtain ⟨m, a, b, d, _⟩ := at_lies r r2 h
      exact ⟨m, a, b, d⟩
  · rintro ⟨m, h0, h1, h2⟩
    obtain ⟨i, hi, _⟩ := lies_at r r2 h0 h1 h2
    rcases last_spec (dots ws) (Str.ofString "." ++ dots ds) with ⟨_, e⟩ | ⟨j, e, h, _⟩
    · exact absurd hi (e i)
    · rw [e]
      refine ⟨by show (j : Int) ≠ -1; omega, fun q => ?_⟩
      have q : (j : Int) = 0 := q
      have q : j = 0 := by omega
      subst q
      obtain ⟨h3, _⟩ := at_pre.mp h
      rw [lc_dom (row_ne r2), List.drop_zero, ← lc_dots ds (row_ne r2)] at h3
      obtain ⟨c, B, e, hc⟩ := dots_first r
      rw [e, List.cons_prefix_cons] at h3
      exact hc h3.1.symm
/-- what domain_match says of two rows -/
def tv (wk wj : List Str) : Bool := !endsV wk && (liesV (wk.map Txt.lower) (wj.map Txt.lower) && !endsV wj)
theorem told_tv {wk wj : List Str} (r : Row wk) (r2 : Row wj) : toldV (endsV wk) (Txt.rfind (dots (wk.map Txt.lower)) (Str.ofString "." ++ dots (wj.map Txt.lower))) (endsV wj) = tv wk wj := by
  unfold toldV tv
  rw [rfind_lies (row_lower r) (row_lower r2)]
/-- the fronts that the domain's labels go on -/
theorem front_lies {ls ds : List Str} (r : Row ls) (r2 : Row ds) {m : Nat} (h0 : 1 ≤ m) (h1 : m < ls.length) :
    Txt.startswith (pathOf ls) (joinStep (pathOf (ls.take m)) (tailOf ds)) = true ↔ LiesAt ls ds m := by
  have hn : ls.take m ≠ [] := by intro q; have := congrArg List.length q; rw [List.length_take, List.length_nil] at this; omega
  have hv : ∀ b ∈ ls.take m, b ∈ vocab := fun b hb => r.v b (List.mem_of_mem_take hb)
  have e1 := lc_path hv hn
  have e2 : lc (tailOf ds) ≠ [] ∧ 47 :: lc (tailOf ds) = slashed ds := by
    cases ds with
    | nil => exact absurd rfl (row_ne r2)
    | cons a t =>
      have ha := r2.v a (List.mem_cons_self ..)
      have e : lc (tailOf (a :: t)) = lc a ++ slashed t := lc_join (fun b hb => r2.v b (List.mem_cons_of_mem _ hb)) (vocab_ne a ha) (by have := lab_last47 (A := []) ha; simpa using this)
      refine ⟨?_, ?_⟩
      · rw [e]
        intro q
        exact vocab_ne a ha (List.append_eq_nil_iff.mp q).1
      · rw [e]; simp [slashed]
  obtain ⟨A, c, e3, hc⟩ := slashed_last hv hn
  have e4 : lc (joinStep (pathOf (ls.take m)) (tailOf ds)) = slashed (ls.take m) ++ slashed ds := by
    have hs : Txt.startswith (tailOf ds) (Str.ofString "/") = false := by
      rw [Bool.eq_false_iff]
      intro q
      rw [starts_iff, lc_slash] at q
      cases ds with
      | nil => exact absurd rfl (row_ne r2)
      | cons a t =>
        have ha := r2.v a (List.mem_cons_self ..)
        have e : lc (tailOf (a :: t)) = lc a ++ slashed t := lc_join (fun b hb => r2.v b (List.mem_cons_of_mem _ hb)) (vocab_ne a ha) (by have := lab_last47 (A := []) ha; simpa using this)
        rw [e] at q
        cases h : lc a with
        | nil => exact vocab_ne a ha h
        | cons p s =>
          rw [h, List.cons_append, List.cons_prefix_cons] at q
          have := (lab_no ha).1
          rw [h, ← q.1] at this
          simp at this
    rw [js4 hs (by rw [← lc_len, e1, e3]; simp; omega) (by rw [Bool.eq_false_iff, Ne, ends_slash, e1, e3]; simpa using hc), lc_app, lc_app, lc_slash, e1, ← e2.2]
    rfl
  rw [starts_iff, e4, lc_path r.v (row_ne r)]
  have e5 : slashed ls = slashed (ls.take m) ++ slashed (ls.drop m) := by rw [← slashed_app, List.take_append_drop]
  rw [e5, List.prefix_append_right_inj, slashed_sp, slashed_sp, lies_sp (row_ne r2) (voc47 r.v) (voc47 r2.v)]
theorem fronts_lies {ls ds : List Str} (r : Row ls) (r2 : Row ds) : (!decide ((frs ls 0).filter (fun f => Txt.startswith (pathOf ls) (joinStep f (tailOf ds))) = [])) = liesV ls ds := by
  rw [Bool.eq_iff_iff, lies_iff (row_ne r2)]
  simp only [Bool.not_eq_true', decide_eq_false_iff_not, List.filter_eq_nil_iff, Classical.not_forall, Classical.not_not]
  unfold frs
  constructor
  · rintro ⟨f, hf, h⟩
    obtain ⟨i, hi, rfl⟩ := List.mem_map.mp hf
    have hi := List.mem_range.mp hi
    exact ⟨ls.length - 1 - i, by omega, by omega, (front_lies r r2 (by omega) (by omega)).mp h⟩
  · rintro ⟨m, h0, h1, h2⟩
    refine ⟨pathOf (ls.take m), List.mem_map.mpr ⟨ls.length - 1 - m, List.mem_range.mpr (by omega), by rw [show ls.length - 1 - (ls.length - 1 - m) = m by omega]⟩, (front_lies r r2 h0 h1).mpr h2⟩
theorem path_inj {a b : List Str} (ha : ∀ x ∈ a, x ∈ vocab) (hb : ∀ x ∈ b, x ∈ vocab) (h : pathOf a = pathOf b) : a = b := by
  by_cases h1 : a = []
  · subst h1
    rw [path_nil] at h
    exact (path_root hb h.symm).symm
  by_cases h2 : b = []
  · subst h2
    rw [path_nil] at h
    exact path_root ha h
  have e := congrArg lc h
  rw [lc_path ha h1, lc_path hb h2, slashed_sp, slashed_sp] at e
  exact lcs_inj (sp_inj (voc47 ha) (voc47 hb) e)
theorem head_turned {ls ds : List Str} (r : Row ls) (r2 : Row ds) : (dirV (pathOf ls.reverse) == pathOf ds.reverse) = decide (ls.drop 1 = ds) := by
  cases ls with
  | nil => exact absurd rfl (row_ne r)
  | cons a t =>
    rw [List.reverse_cons, dir_path (by rw [← List.reverse_cons]; intro b hb; exact r.v b (by simp at hb ⊢; exact hb.symm)), Bool.eq_iff_iff, beq_iff_eq, decide_eq_true_eq]
    constructor
    · intro h
      have := path_inj (fun x hx => r.v x (by simp at hx; simp [hx])) (fun x hx => r2.v x (by simpa using hx)) h
      simpa using congrArg List.reverse this
    · intro h
      rw [← h]; rfl
end Mine
end

section
open PySem PySem.W PyProof.Rows PySem.StrLaws PySem.Builtin PySem.Builtin.Str
set_option Elab.async false
set_option maxRecDepth 100000
set_option maxHeartbeats 400000
namespace Mine
theorem contains_dot (x : Str) : Txt.contains x (Str.ofString ".") = decide (46 ∈ lc x) := by
  have key : ∀ i, At x (Str.ofString ".") x.length i ↔ (lc x)[i]? = some 46 := by
    intro i
    rw [at_pre, lc_dot, len_dot]
    have hl := lc_len x
    constructor
    · rintro ⟨h, h2⟩
      have hi : i < (lc x).length := by omega
      rw [List.drop_eq_getElem_cons hi, List.cons_prefix_cons] at h
      rw [List.getElem?_eq_getElem hi, ← h.1]
    · intro h
      obtain ⟨hi, e⟩ := List.getElem?_eq_some_iff.mp h
      refine ⟨?_, by omega⟩
      rw [List.drop_eq_getElem_cons hi, List.cons_prefix_cons]
      exact ⟨e.symm, List.nil_prefix⟩
  unfold Txt.contains
  rcases occ_head x (Str.ofString ".") 1 (Nat.le_refl _) with ⟨e, h⟩ | ⟨i, t, e, h, _⟩
  · rw [e, eq_comm]
    simp only [List.isEmpty_nil, Bool.not_true, decide_eq_false_iff_not]
    intro hm
    obtain ⟨i, hi⟩ := List.mem_iff_getElem?.mp hm
    exact h i ((key i).mpr hi)
  · rw [e, eq_comm]
    simp only [List.isEmpty_cons, Bool.not_false, decide_eq_true_eq]
    exact List.mem_of_getElem? ((key i).mp h)
theorem vocab_lowlen : ∀ x ∈ vocab, (Txt.lower x).length = x.length := by decide +kernel
theorem sp_lowlen {ls : List Str} (h : ∀ b ∈ ls, b ∈ vocab) : (sp 46 (lcs (ls.map Txt.lower))).length = (sp 46 (lcs ls)).length := by
  rw [← sp_low h, List.length_map]
theorem sp_drop_len {ws : List Str} {m : Nat} (h : 1 ≤ m) : (sp 46 (lcs (ws.drop m))).length ≤ (sp 46 (lcs (ws.drop 1))).length := by
  obtain ⟨k, rfl⟩ : ∃ k, m = 1 + k := ⟨m - 1, by omega⟩
  rw [← List.drop_drop]
  generalize ws.drop 1 = l
  conv => rhs; rw [← List.take_append_drop k l, lcs_app, sp_app, List.length_append]
  omega
theorem sp_drop_eq {ws : List Str} {m : Nat} (h : 1 ≤ m) (e : (sp 46 (lcs (ws.drop m))).length = (sp 46 (lcs (ws.drop 1))).length) : sp 46 (lcs (ws.drop m)) = sp 46 (lcs (ws.drop 1)) := by
  obtain ⟨k, rfl⟩ : ∃ k, m = 1 + k := ⟨m - 1, by omega⟩
  rw [← List.drop_drop] at e ⊢
  generalize ws.drop 1 = l at e ⊢
  have e2 : sp 46 (lcs l) = sp 46 (lcs (l.take k)) ++ sp 46 (lcs (l.drop k)) := by rw [← sp_app, ← lcs_app, List.take_append_drop]
  rw [e2, List.length_append] at e
  have : sp 46 (lcs (l.take k)) = [] := List.length_eq_zero_iff.mp (by omega)
  rw [e2, this]; rfl
theorem far_false {ls ds : List Str} (r : Row ls) (r2 : Row ds) (h : liesV ls ds = false) : decide (ls.drop 1 = ds) = false := by
  rw [decide_eq_false_iff_not]
  intro e
  have hd := row_ne r2
  have : liesV ls ds = true := by
    rw [lies_iff hd]
    have hl : 0 < (ls.drop 1).length := by rw [e]; exact List.length_pos_iff.mpr hd
    rw [List.length_drop] at hl
    refine ⟨1, Nat.le_refl _, by omega, (lies_sp hd (voc46 r.v) (voc46 r2.v)).mpr ?_⟩
    rw [e]
    exact List.prefix_refl _
  rw [this] at h
  cases h
theorem near_law {wk wj : List Str} (r : Row wk) (r2 : Row wj) (h : liesV (wk.map Txt.lower) (wj.map Txt.lower) = true) :
    (!Txt.contains (Txt.slice (dots wk) none (some (((dots wk).length : Int) - ((Str.ofString "." ++ dots wj).length : Int)))) (Str.ofString ".")) = decide ((wk.map Txt.lower).drop 1 = wj.map Txt.lower) := by
  have rl := row_lower r
  have rl2 := row_lower r2
  obtain ⟨m, h0, h1, h2⟩ := (lies_iff (row_ne rl2)).mp h
  have h3 := (lies_sp (row_ne rl2) (voc46 rl.v) (voc46 rl2.v)).mp h2
  have hl1 := h3.length_le
  have hl2 := sp_drop_len (ws := wk.map Txt.lower) h0
  have ed : (wk.map Txt.lower).drop 1 = (wk.drop 1).map Txt.lower := by simp
  have hv1 : ∀ b ∈ wk.drop 1, b ∈ vocab := fun b hb => r.v b (List.mem_of_mem_drop hb)
  have hl3 : (sp 46 (lcs ((wk.map Txt.lower).drop 1))).length = (sp 46 (lcs (wk.drop 1))).length := by rw [ed]; exact sp_lowlen hv1
  have hl4 := sp_lowlen r2.v
  have hl5 := lc_len (Str.ofString "." ++ dots wj)
  rw [lc_dom (row_ne r2)] at hl5
  cases wk with
  | nil => exact absurd rfl (row_ne r)
  | cons a t =>
    have ha := r.v a (List.mem_cons_self ..)
    have hl6 := lc_len (dots (a :: t))
    rw [dots_head, List.length_append] at hl6
    rw [List.drop_succ_cons, List.drop_zero] at hl3
    have es : lc (Txt.slice (dots (a :: t)) none (some (((dots (a :: t)).length : Int) - ((Str.ofString "." ++ dots wj).length : Int)))) = (lc a ++ sp 46 (lcs t)).take ((dots (a :: t)).length - (Str.ofString "." ++ dots wj).length) := by
      rw [lc_slice_to (by omega) (by omega), dots_head]
      congr 1
      omega
    rw [contains_dot, es, Bool.eq_iff_iff]
    simp only [Bool.not_eq_true', decide_eq_false_iff_not, decide_eq_true_eq]
    constructor
    · intro hno
      have hlen : (sp 46 (lcs (wj.map Txt.lower))).length = (sp 46 (lcs (((a :: t).map Txt.lower).drop 1))).length := by
        rcases Nat.lt_or_ge (sp 46 (lcs (wj.map Txt.lower))).length (sp 46 (lcs (((a :: t).map Txt.lower).drop 1))).length with q | q
        · exfalso
          apply hno
          have e2 : (dots (a :: t)).length - (Str.ofString "." ++ dots wj).length = (lc a).length + ((sp 46 (lcs t)).length - (Str.ofString "." ++ dots wj).length) := by omega
          rw [e2, List.take_length_add_append]
          apply List.mem_append_right
          obtain ⟨k, hk⟩ : ∃ k, (sp 46 (lcs t)).length - (Str.ofString "." ++ dots wj).length = k + 1 := ⟨(sp 46 (lcs t)).length - (Str.ofString "." ++ dots wj).length - 1, by omega⟩
          rw [hk]
          cases t with
          | nil => simp [sp, lcs] at hk
          | cons b u => rw [lcs_cons, sp_cons, List.take_succ_cons]; exact List.mem_cons_self ..
        · omega
      have e1 : sp 46 (lcs (((a :: t).map Txt.lower).drop m)) = sp 46 (lcs (((a :: t).map Txt.lower).drop 1)) := sp_drop_eq h0 (by omega)
      rw [e1] at h3
      have e2 := h3.eq_of_length hlen
      exact (lcs_inj (sp_inj (voc46 rl2.v) (voc46 (fun b hb => rl.v b (List.mem_of_mem_drop hb))) e2)).symm
    · intro e
      have hlen : (sp 46 (lcs (((a :: t).map Txt.lower).drop 1))).length = (sp 46 (lcs (wj.map Txt.lower))).length := by rw [e]
      rw [show (dots (a :: t)).length - (Str.ofString "." ++ dots wj).length = (lc a).length by omega, List.take_left' rfl]
      exact (lab_no ha).2.1
end Mine
end

section
open PySem PySem.W PyProof.Rows PySem.StrLaws PySem.Builtin PySem.Builtin.Str
set_option Elab.async false
set_option maxRecDepth 100000
set_option maxHeartbeats 400000
namespace Mine
section
variable {prog : Program} {w : World} {A : Around} {s : Shared} {R : Result → Shared → Prop}
theorem up_len {wk : List Str} (r : Row wk) : (Txt.upper (dots wk)).length ≤ 60 := by
  have := dots_len r
  rw [← lc_len, lc_upper (dots_asc r.v (row_ne r)), List.length_map, lc_len]
  exact this
theorem dom_len {wj : List Str} (r : Row wj) : (Str.ofString "." ++ dots wj).length ≤ 61 := by
  have := dots_len r
  rw [← lc_len, lc_app, List.length_append, lc_len, lc_len, len_dot]
  omega
theorem c_told {wk wj : List Str} {t u : Tok} {b : Bool} (r : Row wk) (r2 : Row wj) (hb : tv wk wj = b) (o : Ok A 2) (G : Gd w s.heap)
    (h : ∀ h' tk, Kp s.heap h' → R (.ok (.ret (.bool b))) { s with heap := h', toks := tk }) :
    codeAny (model prog w) A (.call (.ref 57) ⟨[.str (Txt.upper (dots wk)) t, .str (Str.ofString "." ++ dots wj) u], []⟩) R s := by
  have rl := row_lower r
  have rl2 := row_lower r2
  have e1 := low_up_dots r.v (row_ne r)
  have e2 := low_dom r2.v (row_ne r2)
  have H1 : Hdn (Txt.lower (Txt.upper (dots wk))) (endsV wk) := by rw [e1, ← ends_low r]; exact hdn_row rl
  have H2 : Hdn (Txt.slice (Txt.lower (Str.ofString "." ++ dots wj)) (some 1) none) (endsV wj) := by rw [e2, dom_rest (row_ne rl2), ← ends_low r2]; exact hdn_row rl2
  refine c_domain_match (by have := up_len r; omega) (by have := dom_len r2; omega) H1 H2 ?_ ?_ o G ?_
  · rw [e1, e2, beq_eq_false_iff_ne]
    intro e
    have := congrArg lc e
    obtain ⟨c, B, e3, hc⟩ := dots_first rl
    rw [lc_dom (row_ne rl2), ← lc_dots _ (row_ne rl2), e3] at this
    exact hc (List.cons.inj this).1
  · rw [e2, starts_iff, lc_dot, lc_dom (row_ne rl2), ← lc_dots _ (row_ne rl2), List.cons_prefix_cons]
    exact ⟨rfl, List.nil_prefix⟩
  · rw [e1, e2, told_tv r r2, hb]
    exact h
theorem c_ends' {a : Addr} {vs : List Value} {ws : List Str} {b : Bool} (hb : endsV ws = b) (hl : s.heap.IsList a vs.toArray) (hv : StrsAre vs ws) (r : Row ws) (o : Ok A 1) (G : Gd w s.heap)
    (h : ∀ h' tk, Kp s.heap h' → R (.ok (.ret (.bool b))) { s with heap := h', toks := tk }) :
    codeAny (model prog w) A (.call (.ref 184) ⟨[.ref a], []⟩) R s := by
  subst hb
  exact c_ends hl hv (by have := r.n; omega) r.pos o G h
theorem c_lies' {a b : Addr} {vs us : List Value} {ws ds : List Str} {c : Bool} (hb : liesV ws ds = c) (hl : s.heap.IsList a vs.toArray) (hv : StrsAre vs ws) (hl2 : s.heap.IsList b us.toArray) (hv2 : StrsAre us ds) (rw1 : Row ws) (rw2 : Row ds) (o : Ok A 1) (G : Gd w s.heap)
    (h : ∀ h' tk, Kp s.heap h' → R (.ok (.ret (.bool c))) { s with heap := h', toks := tk }) :
    codeAny (model prog w) A (.call (.ref 191) ⟨[.ref a, .ref b], []⟩) R s := by
  subst hb
  exact c_lies hl hv hl2 hv2 rw1 rw2 o G h
end
section
variable {prog : Program} {w : World} {A : Around} {s : Shared} {h₀ : Heap} {L : Addr} {m : Str → Option Value} {env : Env} {ct elt : Expr} {x : Str} {scope : Scope} {cl : List (Str × Addr)} {S : List (Addr × Obj) → Prop} {P : Nat → Value → Prop}
  {Fin : List Value → List (Addr × Obj) → Prop} {news : List (Addr × Obj)}
open PyProof.Rows.LCg PyProof.Rows.LCt
theorem comp_indT (n : Nat) (Inv : Nat → List Value → List (Addr × Obj) → Prop)
    (turn : ∀ i ys news v I oI C oC D m₂ h tk (E' : Value → Shared → Prop), i < n → Inv i ys news → P i v → NsObj oC m₂ → m₂ x = some v → Fr h₀ L h m → News h₀ L h ((I, oI) :: (C, oC) :: (D, lst ys) :: news) → Off3 I C D news → ((@Ne Nat I C) ∧ (@Ne Nat I D) ∧ (@Ne Nat C D)) →
      wpAny (model prog w) A (isTrue ct (compEnvC scope cl C env) (eval ct (compEnvC scope cl C env))) (fun ok s' => if ok = true then
        wpAny (model prog w) A (eval elt (compEnvC scope cl C env)) (CompEnd h₀ L m { s with heap := h, toks := tk } I oI C oC D (lst ys) S (fun y news' => Inv (i + 1) (ys ++ [y]) news')) E' s'
        else CompEnd h₀ L m { s with heap := h, toks := tk } I oI C oC D (lst ys) S (fun _ news' => Inv (i + 1) ys news') Value.none s') E' { s with heap := h, toks := tk })
    (done : ∀ ys news, Inv n ys news → Fin ys news) (h0 : Inv 0 [] news) : CompRestT prog w A h₀ L m env ct elt x scope cl s S P Fin n 0 [] news := by
  have key : ∀ k i ys news, i + k = n → Inv i ys news → CompRestT prog w A h₀ L m env ct elt x scope cl s S P Fin k i ys news := by
    intro k
    induction k with
    | zero =>
      intro i ys news hi hI
      obtain rfl : i = n := by omega
      exact done ys news hI
    | succ k ih =>
      intro i ys news hi hI
      refine CompRestT.succ ?_
      intro v I oI C oC D m₂ h tk E' hP hN hm F N off ne
      refine wpAny_mono (turn i ys news v I oI C oC D m₂ h tk E' (by omega) hI hP hN hm F N off ne) (fun ok s₂ hq => ?_) fun _ _ e => e
      cases ok with
      | true =>
        simp only [if_true] at hq ⊢
        refine wpAny_mono hq (fun y s₃ hq => ?_) fun _ _ e => e
        obtain ⟨h', tk', news', e, F', N', off', hS, hr⟩ := hq
        exact ⟨h', tk', news', e, F', N', off', hS, ih (i + 1) (ys ++ [y]) news' (by omega) hr⟩
      | false =>
        simp only [Bool.false_eq_true, if_false] at hq ⊢
        obtain ⟨h', tk', news', e, F', N', off', hS, hr⟩ := hq
        exact ⟨h', tk', news', e, F', N', off', hS, ih (i + 1) ys news' (by omega) hr⟩
  exact key n 0 [] news (by omega) h0
end
theorem law_in {h₀ h : Heap} {L : Addr} {i c1 c2 c3 f r1 r2 r3 r4 b l b' l' : Addr × Obj} {own E : List (Addr × Obj)} (N : News h₀ L h (i :: c3 :: f :: c2 :: c1 :: r1 :: r2 :: r3 :: r4 :: b :: l :: (own ++ E))) (hb : b' ∈ E) (hl : l' ∈ E) :
    News h₀ L h (i :: c3 :: f :: c2 :: c1 :: r1 :: r2 :: r3 :: r4 :: b :: l :: b' :: l' :: (own ++ E)) := by
  intro p hp
  refine N p ?_
  simp only [List.mem_cons, List.mem_append] at hp ⊢
  rcases hp with h | h | h | h | h | h | h | h | h | h | h | h | h | h | h
  · exact .inl h
  · exact .inr (.inl h)
  · exact .inr (.inr (.inl h))
  · exact .inr (.inr (.inr (.inl h)))
  · exact .inr (.inr (.inr (.inr (.inl h))))
  · exact .inr (.inr (.inr (.inr (.inr (.inl h)))))
  · exact .inr (.inr (.inr (.inr (.inr (.inr (.inl h))))))
  · exact .inr (.inr (.inr (.inr (.inr (.inr (.inr (.inl h)))))))
  · exact .inr (.inr (.inr (.inr (.inr (.inr (.inr (.inr (.inl h))))))))
  · exact .inr (.inr (.inr (.inr (.inr (.inr (.inr (.inr (.inr (.inl h)))))))))
  · exact .inr (.inr (.inr (.inr (.inr (.inr (.inr (.inr (.inr (.inr (.inl h))))))))))
  · exact .inr (.inr (.inr (.inr (.inr (.inr (.inr (.inr (.inr (.inr (.inr (.inr (h ▸ hb))))))))))))
  · exact .inr (.inr (.inr (.inr (.inr (.inr (.inr (.inr (.inr (.inr (.inr (.inr (h ▸ hl))))))))))))
  · exact .inr (.inr (.inr (.inr (.inr (.inr (.inr (.inr (.inr (.inr (.inr (.inl h)))))))))))
  · exact .inr (.inr (.inr (.inr (.inr (.inr (.inr (.inr (.inr (.inr (.inr (.inr h)))))))))))
theorem inner_z {vc vt vn vd : Option Value} {uj m0 : Str → Option Value} : ∀ z, z ∉ [Str.ofString "domain", Str.ofString "named", Str.ofString "told", Str.ofString "closest"] →
    (fun y => if y = Str.ofString "closest" then vc else if y = Str.ofString "told" then vt else if y = Str.ofString "named" then vn else if y = Str.ofString "domain" then vd else mput [Str.ofString "domain", Str.ofString "named", Str.ofString "told", Str.ofString "closest"] uj m0 y) z = m0 z := by
  intro z hz
  simp only [List.mem_cons, List.not_mem_nil, or_false, not_or] at hz
  obtain ⟨h1, h2, h3, h4⟩ := hz
  simp only [mput, h1, h2, h3, h4, if_false]
theorem law_sub {i c1 c2 c3 f r1 r2 r3 r4 b l b' l' p : Addr × Obj} {own E : List (Addr × Obj)} (hp : p ∈ i :: c3 :: f :: c2 :: c1 :: r1 :: r2 :: r3 :: r4 :: b :: l :: (own ++ E)) :
    p ∈ i :: c3 :: f :: c2 :: c1 :: r1 :: r2 :: r3 :: r4 :: b :: l :: b' :: l' :: (own ++ E) := by
  simp only [List.mem_cons, List.mem_append] at hp ⊢
  rcases hp with h | h | h | h | h | h | h | h | h | h | h | h | h
  · exact .inl h
  · exact .inr (.inl h)
  · exact .inr (.inr (.inl h))
  · exact .inr (.inr (.inr (.inl h)))
  · exact .inr (.inr (.inr (.inr (.inl h))))
  · exact .inr (.inr (.inr (.inr (.inr (.inl h)))))
  · exact .inr (.inr (.inr (.inr (.inr (.inr (.inl h))))))
  · exact .inr (.inr (.inr (.inr (.inr (.inr (.inr (.inl h)))))))
  · exact .inr (.inr (.inr (.inr (.inr (.inr (.inr (.inr (.inl h))))))))
  · exact .inr (.inr (.inr (.inr (.inr (.inr (.inr (.inr (.inr (.inl h)))))))))
  · exact .inr (.inr (.inr (.inr (.inr (.inr (.inr (.inr (.inr (.inr (.inl h))))))))))
  · exact .inr (.inr (.inr (.inr (.inr (.inr (.inr (.inr (.inr (.inr (.inr (.inr (.inr (.inl h)))))))))))))
  · exact .inr (.inr (.inr (.inr (.inr (.inr (.inr (.inr (.inr (.inr (.inr (.inr (.inr (.inr h)))))))))))))
theorem frs_len {ls : List Str} (r : Row ls) : ∀ f ∈ frs ls 0, f.length ≤ 61 := by
  intro f hf
  unfold frs at hf
  obtain ⟨i, _, rfl⟩ := List.mem_map.mp hf
  have := path_len (ls := ls.take (ls.length - 1 - i)) fun b hb => r.v b (List.mem_of_mem_take hb)
  have hn := r.n
  rw [List.length_take] at this
  omega
theorem tail_len {ds : List Str} (r2 : Row ds) : (tailOf ds).length ≤ 60 := by
  have h : 47 :: lc (tailOf ds) = slashed ds := by
    cases ds with
    | nil => exact absurd rfl (row_ne r2)
    | cons a t =>
      have ha := r2.v a (List.mem_cons_self ..)
      have e : lc (tailOf (a :: t)) = lc a ++ slashed t := lc_join (fun b hb => r2.v b (List.mem_cons_of_mem _ hb)) (vocab_ne a ha) (by have := lab_last47 (A := []) ha; simpa using this)
      rw [e]; simp [slashed]
  have h2 := path_len r2.v
  have hn := r2.n
  rw [← lc_len, lc_path r2.v (row_ne r2), ← h, List.length_cons, lc_len] at h2
  omega
theorem filt_yes {l : List Str} {p : Str → Bool} {i : Nat} {f : Str} (h : l[i]? = some f) (hp : p f = true) : (l.take (i + 1)).filter p = (l.take i).filter p ++ [f] := by
  rw [take_succ_get h, List.filter_append, List.filter_cons_of_pos hp, List.filter_nil]
theorem filt_no {l : List Str} {p : Str → Bool} {i : Nat} {f : Str} (h : l[i]? = some f) (hp : p f = false) : (l.take (i + 1)).filter p = (l.take i).filter p := by
  rw [take_succ_get h, List.filter_append, List.filter_cons_of_neg (by rw [hp]; decide), List.filter_nil, List.append_nil]
theorem path_ok {ls : List Str} (h : ∀ b ∈ ls, b ∈ vocab) : PyData.strOk (pathOf ls) = true := by
  by_cases hn : ls = []
  · subst hn; decide +kernel
  · unfold PyData.strOk
    rw [← Array.all_toList, List.all_eq_true]
    intro c hc
    have hc : c ∈ lc (pathOf ls) := hc
    rw [lc_path h hn, slashed_sp] at hc
    obtain ⟨w, hw, hc⟩ := List.mem_flatMap.mp hc
    obtain ⟨x, hx, rfl⟩ := List.mem_map.mp hw
    rw [decide_eq_true_eq]
    rcases List.mem_cons.mp hc with rfl | hc
    · decide
    · have := lab_asc (h x hx) c hc
      omega
theorem frs_ok {ls : List Str} (r : Row ls) : ∀ f ∈ frs ls 0, PyData.strOk f = true := by
  intro f hf
  unfold frs at hf
  obtain ⟨i, _, rfl⟩ := List.mem_map.mp hf
  exact path_ok fun b hb => r.v b (List.mem_of_mem_take hb)
end Mine
end

section
open PySem PySem.W PyProof.Rows
set_option Elab.async false
set_option maxRecDepth 100000
set_option maxHeartbeats 0
namespace Mine
local macro_rules | `(tactic| size_fits) => `(tactic| (simp only [sizeLine]; omega))
theorem okA {env : Env} : Ok (callerA.deeper env) 50 := by
  refine ⟨?_, ?_, rfl, rfl⟩ <;> simp only [callerA, Around.deeper, claimMargin] <;> decide
theorem okU {env : Env} : (callerA.deeper env).units + 64 < cLine := by
  simp only [callerA, Around.deeper, cLine]; decide
theorem holds : PySem.Challenge.rw_pd0099_01.Holds := by
  refine hd ?_
  w_strict (k_go0; (all_goals try k_fold))
  have G : Gd _ _ := ⟨by assumption, ⟨_, _, _, by assumption⟩⟩
  rename Shared => S1
  rename IntsAre _ _ => hI
  rename Heap.IsList _ _ _ => hL
  rename Fr _ _ _ _ => F
  rename News _ _ _ _ => N
  have hn : ‹List Int›.length ≤ 63 := by have := ‹¬ _ < _›; omega
  repeat' ((fail_if_success (with_reducible show wpAny _ _ (call (Value.ref _) _) _ _ _)); first | walk1 | (dsimp only; walk1))
  refine wpAny_call (c_rows (hL.at fun o e => F.keep _ _ e) hI hn (okA.less (by decide)) (Gd.keeps G F.keep) ?_)
  intro h2 tk2 ra us c E rs k2 hE hR hRow hrs
  have N2 := news_rets F N k2 hE
  have hne := rets_ne N hE
  have F2 := Fr.st F k2
  clear F N k2 hE
  obtain ⟨m0, F2⟩ : ∃ m, Fr _ _ h2 m := ⟨_, F2⟩
  repeat' ((fail_if_success (with_reducible show wpAny _ _ (exec (Stmt.Assign _ (Expr.ListComp _ _ _ _) _) _) _ _ _)); first | walk1 | (dsimp only; walk1))
  rename Fr _ _ _ _ => F3
  rename News _ _ _ _ => N3
  refine LCg.Assign_ListComp_U (F₀ := F3) (by rfl) (by with_unfolding_all rfl) (by rfl) (by decide) (by rfl) (by decide) (by rfl) (by rfl) (by rfl) ?_
  walk1
  have hlu := hR.len
  obtain ⟨cs, oj, op, ot, vj, vp, vt, hcs, dj, dp, dt, N3, hne⟩ := cells_abs N3 hne (by assumption) (by assumption) (by assumption)
  refine LCg.CompSrc.ledger rfl F3 N3 (List.mem_append_right _ (List.Mem.head _)) (by simp [sizeLine]; omega) ?_
  intro g
  refine comp_ind (List.toArray us).size (fun i ys news => ∃ E1, news = cs ++ (ra, listOf (List.toArray us) c) :: E1 ∧ (∀ p ∈ E, p ∈ E1) ∧ RowsIn E1 ys ((rs.take i).map (·.map Txt.lower)) ∧ ∀ p ∈ E1, ∀ q ∈ cs, p.1 ≠ q.1) ?_ ?_ ⟨E, rfl, fun _ hp => hp, .nil, fun p hp => hne p (.tail _ hp)⟩
  · rintro i ys news v I oI C oC D m₂ h4 tk4 E' hi ⟨E1, rfl, hEE, hR1, hne1⟩ hP hN hm F4 N4 off ne
    have hv' : us[i]? = some v := by simpa using hP
    obtain ⟨b, vs, cb, ws, rfl, hbE, hvs, hws⟩ := hR.at hv'
    have rw1 : Row ws := hRow _ (List.mem_of_getElem? hws)
    have hvl := hvs.len_eq
    have hwn := rw1.n
    refine LCg.ListComp_U (F₀ := F4) (by with_unfolding_all rfl) (by decide) (by rfl) (by decide) (by rfl) ?_
    walk1
    refine LCg.CompSrc.ledger rfl F4 N4 (List.Mem.tail _ (List.Mem.tail _ (List.Mem.tail _ (List.mem_append_right _ (List.Mem.tail _ (hEE _ hbE)))))) (by simp [sizeLine]; omega) ?_
    intro g1
    clear N3 F3
    refine comp_ind (List.toArray vs).size (fun j zs news' => news' = (I, oI) :: (C, oC) :: (D, LCg.lst ys) :: (cs ++ (ra, listOf (List.toArray us) c) :: E1) ∧ StrsAre zs ((ws.take j).map Txt.lower)) ?_ ?_ ⟨rfl, .nil⟩
    · rintro j zs news' v I2 oI2 C2 oC2 D2 m3 h5 tk5 E2 hj ⟨rfl, hz⟩ hP2 hN2 hm2 F5 N5 off2 ne2
      have hj' : j < ws.length := by simp at hj; omega
      obtain ⟨t, rfl⟩ : ∃ t, v = .str ws[j] t := by
        have hv2 : vs[j]? = some v := by simpa using hP2
        obtain ⟨t, ht⟩ := hvs.at (j := j) (y := ws[j]) (by simp [hj'])
        rw [ht] at hv2
        exact ⟨t, (Option.some.inj hv2).symm⟩
      have hw5 : ws[j].length ≤ 5 := vocab_len _ (rw1.v _ (List.getElem_mem hj'))
      clear F4 N4
      repeat' ((fail_if_success (with_reducible show LCg.CompEnd _ _ _ _ _ _ _ _ _ _ _ _ _ _)); first | walk1 | (dsimp only; walk1))
      refine ⟨_, _, _, rfl, F5, N5, off2, .inr ⟨_, List.Mem.tail _ (List.Mem.tail _ (List.Mem.tail _ (List.mem_append_right _ (List.Mem.tail _ (hEE _ hbE))))), rfl, _, rfl⟩, rfl, ?_⟩
      rw [List.take_succ_eq_append_getElem hj', List.map_append]
      exact hz.append' (.cons _ _ .nil)
    · rintro zs news' ⟨rfl, hz⟩
      clear F4 N4
      intro D2 h5 tk5 F5 N5 off2
      rw [show (List.toArray vs).size = ws.length by simp [hvl], List.take_length] at hz
      refine ⟨_, _, cs ++ (ra, listOf (List.toArray us) c) :: (D2, LCg.lst zs) :: E1, rfl, F5, lows_news N5, lows_off off off2, .inr ⟨_, List.mem_append_right _ (.head _), rfl, _, rfl⟩, _, rfl, fun p hp => .tail _ (hEE p hp), ?_, lows_ne hne1 off2⟩
      rw [take_succ_get hws, List.map_append]
      exact (hR1.mono (fun p hp => .tail _ hp)).snoc (c := zs.length) (.head _) hz
  · rintro ys news ⟨E1, rfl, hEE, hR1, hne1⟩
    clear F3 N3
    intro D h4 tk4 F4 N4 off
    dsimp only
    rw [show (List.toArray us).size = rs.length by simp [hlu], List.take_length] at hR1
    obtain ⟨lrs, hlrs⟩ : ∃ l, l = rs.map (·.map Txt.lower) := ⟨_, rfl⟩
    rw [← hlrs] at hR1
    have hlow : ∀ r ∈ lrs, Row r := by
      rw [hlrs]
      intro r hr
      obtain ⟨q, hq, rfl⟩ := List.mem_map.mp hr
      exact row_lower (hRow q hq)
    have hly := hR1.len
    have hll : lrs.length = rs.length := by rw [hlrs]; simp
    have N5 := lows_fin N4
    have hne5 := lows_fne (oD := LCg.lst ys) (hne _ (.head _)) hne1 off
    have hEE0 := hEE
    clear N4 hne1 hne off hEE
    obtain ⟨E2, hE2, hDm, hRm, N5, hne5, hR2, hR1'⟩ : ∃ E2, E2 = (D, LCg.lst ys) :: (ra, listOf (List.toArray us) c) :: E1 ∧ (D, LCg.lst ys) ∈ E2 ∧ (ra, listOf (List.toArray us) c) ∈ E2 ∧ News _ _ h4 (cs ++ E2) ∧ (∀ p ∈ E2, ∀ q ∈ cs, p.1 ≠ q.1) ∧ RowsIn E2 us rs ∧ RowsIn E2 ys lrs := ⟨_, rfl, .head _, .tail _ (.head _), N5, hne5, hR.mono (fun p hp => .tail _ (.tail _ (hEE0 p hp))), hR1.mono (fun p hp => .tail _ (.tail _ hp))⟩
    walk1
    refine wpAny_Assign_Name ?_
    refine LCg.ListComp_U (F₀ := F4) (by with_unfolding_all rfl) (by decide) (by rfl) (by decide) (by rfl) ?_
    walk1
    refine LCg.CompSrc.ledger rfl F4 N5 (List.mem_append_right _ hDm) (by simp [sizeLine]; omega) ?_
    intro g2
    refine comp_ind (List.toArray ys).size (fun i zs news => news = cs ++ E2 ∧ StrsAre zs ((lrs.take i).map tailOf)) ?_ ?_ ⟨rfl, .nil⟩
    · rintro i zs news v I oI C oC D2 m₂ h6 tk6 E' hi ⟨rfl, hz⟩ hP hN hm F6 N6 off ne
      have hv' : ys[i]? = some v := by simpa using hP
      obtain ⟨b, vs, cb, ws, rfl, hbE, hvs, hws⟩ := hR1'.at hv'
      have rw1 : Row ws := hlow _ (List.mem_of_getElem? hws)
      have hvl := hvs.len_eq
      have hwn := rw1.n
      have hwp := rw1.pos
      clear F4 N5
      repeat' ((fail_if_success (with_reducible show StarOf _ _ _ _ _ _)); first | walk1 | (dsimp only; walk1))
      refine star_seq (ws := vs) F6 N6 (List.Mem.tail _ (.tail _ (.tail _ (List.mem_append_right _ hbE)))) rfl rfl (.inl rfl) (by simp) (by simp [sizeLine]; omega) ?_
      intro h7 F7 N7
      clear F6 N6
      refine ⟨(Gd.keeps G F7.keep).K, ?_⟩
      obtain ⟨w0, t0, vr, wr, rfl, rfl, hvr⟩ := strs_uncons hvs hwp
      dsimp only [List.nil_append, List.cons_append]
      have hln := rw1.len
      refine wpAny_call (c_join hvr (by have := hln w0 (List.mem_cons_self ..); omega) (fun b hb => hln b (List.mem_cons_of_mem _ hb)) (by simp at hwn; omega) (okA.less (by decide)) (Gd.keeps G F7.keep) ?_)
      intro h8 tk8 t8 k8 hl8
      refine ⟨_, _, _, rfl, Fr.st F7 k8, News.st N7 k8, off, .inr ⟨_, List.mem_append_right _ hDm, rfl, _, rfl⟩, rfl, ?_⟩
      rw [take_succ_get hws, List.map_append]
      exact hz.append' (.cons _ _ .nil)
    · rintro zs news ⟨rfl, hz⟩
      clear F4 N5
      intro D2 h6 tk6 F6 N6 off
      rw [show (List.toArray ys).size = lrs.length by simp [hly], List.take_length] at hz
      subst hcs
      obtain ⟨N7, hne7, hne8⟩ := tails_cells N6 hne5 off (Nat.ne_of_lt (by omega)) (Nat.ne_of_lt (by omega))
      refine storeX_C F6 N7 rfl (UpdF.head hne8) dt ?_
      intro h7 ot' F7 N8 dt'
      clear N6 N7 F6 off hne8
      generalize hnew : (_ :: _ : List (Addr × Obj)) = nw at N8
      have hmD : (D, LCg.lst ys) ∈ nw := by rw [← hnew]; exact .tail _ (.tail _ (.tail _ (.tail _ hDm)))
      have hmE : ∀ p ∈ E2, p ∈ nw := by intro p hp; rw [← hnew]; exact .tail _ (.tail _ (.tail _ (.tail _ hp)))
      walk1
      refine LCg.Assign_ListComp_U (F₀ := F7) (by rfl) (by with_unfolding_all rfl) (by rfl) (by decide) (by rfl) (by decide) (by rfl) (by rfl) (by rfl) ?_
      walk1
      refine LCg.CompSrc.ledger rfl F7 N8 hmD (by simp [sizeLine]; omega) ?_
      intro g3
      refine comp_ind (List.toArray ys).size (fun i zs news => news = nw ∧ StrsAre zs ((lrs.take i).map fun r => pathOf r.reverse)) ?_ ?_ ⟨rfl, .nil⟩
      · rintro i zs2 news v I oI C oC D3 m₂ h9 tk9 E' hi ⟨rfl, hz2⟩ hP hN hm F9 N9 off ne
        have hv' : ys[i]? = some v := by simpa using hP
        obtain ⟨b, vs, cb, ws, rfl, hbE, hvs, hws⟩ := hR1'.at hv'
        have rw1 : Row ws := hlow _ (List.mem_of_getElem? hws)
        have hvl := hvs.len_eq
        have hwn := rw1.n
        have hwp := rw1.pos
        clear F7 N8
        repeat' ((fail_if_success (with_reducible show wpAny _ _ (subscriptTail _ _ _ _) _ _ _)); first | walk1 | (dsimp only; walk1))
        rename Fr _ _ _ _ => F10
        rename News _ _ _ _ => N10
        refine slice_list3 (s := ⟨_, _, _, _, _⟩) F10 N10 (News.isList N10 (List.Mem.tail _ (.tail _ (.tail _ (hmE _ hbE))))) .none .none (.int _ _) (by decide) ?_ (hsz := by simp [sizeLine]; omega)
        intro h11 F11 N11
        rw [krv_pick] at N11
        clear F10 N10
        refine star_seq (ws := vs.reverse) F11 N11 (.head _) rfl rfl (.inl rfl) (by simp) (by simp [sizeLine]; omega) ?_
        intro h12 F12 N12
        clear F11 N11
        refine args_nil ?_
        refine ⟨(Gd.keeps G F12.keep).K, ?_⟩
        dsimp only [List.nil_append]
        rw [List.append_nil]
        refine wpAny_call (c_join (strs_rev hvs) (by decide) (fun b hb => rw1.len b (by simpa using hb)) (by simp; omega) (okA.less (by decide)) (Gd.keeps G F12.keep) ?_)
        intro h13 tk13 t13 k13 hl13
        refine ⟨_, _, _, rfl, Fr.st F12 k13, News.st (fun p hp => N12 p (.tail _ hp)) k13, off, .inr ⟨_, hmD, rfl, _, rfl⟩, rfl, ?_⟩
        rw [take_succ_get hws, List.map_append]
        exact hz2.append' (.cons _ _ .nil)
      · rintro zs2 news ⟨rfl, hz2⟩
        clear F7 N8
        intro D3 h9 tk9 F9 N9 off
        rw [show (List.toArray ys).size = lrs.length by simp [hly], List.take_length] at hz2
        subst hnew
        obtain ⟨E3, hE3, hm3, hm2, N10, hne9, hmE3⟩ := law_ledger N9 hne7 off
        clear N9 off hne7 hmD hmE
        have hR3 := hR2.mono hmE3
        have hR3' := hR1'.mono hmE3
        have hmR := hmE3 _ hRm
        have hmL := hmE3 _ hDm
        clear hR2 hR1' hR1 hR hRm hDm hmE3 hne5
        have N11 := law_front N10 hmR hmL hm3 hm2
        clear N10
        dsimp only
        walk1
        refine For_invV S1.heap (by rfl) (by rfl) ?_
        repeat' ((fail_if_success (with_reducible show wpAny _ _ (call (Value.builtin "len") _) _ _ _)); first | walk1 | (dsimp only; walk1))
        refine len_list (News.isList N11 (by k_mem)) (by simp; omega) ?_
        repeat' ((fail_if_success (with_reducible show wpAny _ _ (pyIter _) _ _ _)); first | walk1 | (dsimp only; walk1))
        rename Fr _ _ _ _ => F12
        rename News _ _ _ _ => N12
        rename IsRange _ _ _ _ _ _ _ _ => hRg
        refine iterR_kv [Str.ofString "host", Str.ofString "fronts", Str.ofString "head", Str.ofString "domain", Str.ofString "named", Str.ofString "told", Str.ofString "closest"]
          (fun i kv news' => kv = [] ∧ ∃ op oj vp vj, news' = (S1.heap.objs.size + 1 + 1, op) :: (S1.heap.objs.size + 1 + 1 + 1, oj) :: (S1.heap.objs.size + 1, ot') :: (ra, listOf (List.toArray us) c) :: (D, LCg.lst ys) :: (D3, LCg.lst zs2) :: (D2, LCg.lst zs) :: E3 ∧ op.data = .cell vp ∧ oj.data = .cell vj)
          rfl hRg (by omega) (by omega) (by omega) (by omega) F12 N12 ⟨[], ⟨rfl, op, oj, vp, vj, rfl, dp, dj⟩, by simp, by simp⟩ ?_ ?_
        · rintro i t' kv u news₁ h13 tk13 own I hi ⟨rfl, op1, oj1, vp1, vj1, rfl, dp1, dj1⟩ hoff hI F13 N13 hown
          clear F12 N12
          have hi' : i < rs.length := by omega
          obtain ⟨bk, vsk, ck, wk, hbk, hbkE, hvk, hwk⟩ := hR3.at (i := i) (v := us[i]'(by omega)) (by simp)
          obtain ⟨lk, vlk, clk, wlk, hlk, hlkE, hvlk, hwlk⟩ := hR3'.at (i := i) (v := ys[i]'(by omega)) (by simp)
          have rwk : Row wk := hRow _ (List.mem_of_getElem? hwk)
          have rlk : Row wlk := hlow _ (List.mem_of_getElem? hwlk)
          have N14 := law_turn N13 hbkE hlkE
          clear N13
          repeat' ((fail_if_success (with_reducible show wpAny _ _ (subscriptTail _ _ _ _) _ _ _)); first | walk1 | (dsimp only; walk1))
          refine item_l (News.isList N14 (by k_mem)) (by omega) (by omega) (v := .ref bk) (by rw [← hbk]; simp) ?_
          refine args_nil ?_
          dsimp only [List.nil_append, List.cons_append]
          refine join_listW (News.isList N14 (by k_mem)) hvk (by decide +kernel) (row_weight rwk) ?_
          intro th kh
          repeat' ((fail_if_success (with_reducible show wpAny _ _ (subscriptTail _ _ _ _) _ _ _)); first | walk1 | (dsimp only; walk1))
          rename Fr _ _ _ _ => F15
          rename News _ _ _ _ => N15
          refine item_l (News.isList N15 (by k_mem)) (by omega) (by omega) (v := .ref lk) (by rw [← hlk]; simp) ?_
          have hlkl := hvlk.len_eq
          have hlkn := rlk.n
          refine star_seq (ws := vlk) F15 N15 (by k_mem) rfl rfl (.inl rfl) (by simp) (by simp [sizeLine]; omega) ?_
          intro h16 F16 N16
          clear F15 N15
          refine args_nil ?_
          refine ⟨(Gd.keeps G F16.keep).K, ?_⟩
          dsimp only [List.nil_append]
          rw [List.append_nil]
          refine wpAny_call (c_join hvlk (by decide) rlk.len (by omega) (okA.less (by decide)) (Gd.keeps G F16.keep) ?_)
          intro h17 tk17 t17 k17 hl17
          have F17 := Fr.st F16 k17
          have N17 := News.st N16 k17
          clear F16 N16 k17
          refine storeX_C F17 N17 rfl (UpdF.head ?_) dp1 ?_
          · exact law_path_ne hne9 hmR hmL hm3 hm2 hbkE hlkE hoff hown
          intro h18 op2 F18 N18 dp2
          clear F17 N17
          repeat' ((fail_if_success (with_reducible show wpAny _ _ (call (Value.ref _) _) _ _ _)); first | walk1 | (dsimp only; walk1))
          refine wpAny_call (c_fronts (ls := wlk) rlk (okA.less (by decide)) (Gd.keeps G F18.keep) ?_)
          intro h19 tk19 fa vsf cf k19 frf haf hvf
          have F19 := Fr.st F18 k19
          have N19 := news_ret F18 N18 k19 frf haf
          have hfa3 := fresh_ne (a := S1.heap.objs.size + 1 + 1 + 1) (o := oj1) N18 (by k_mem) frf
          clear F18 N18 k19
          repeat' ((fail_if_success (with_reducible show wpAny _ _ (subscriptTail _ _ _ _) _ _ _)); first | walk1 | (dsimp only; walk1))
          rename Fr _ _ _ _ => F20
          rename News _ _ _ _ => N20
          obtain ⟨tt1, htt⟩ := hz2.at (j := i) (y := pathOf wlk.reverse) (by rw [List.getElem?_map, hwlk]; rfl)
          refine item_l (News.isList N20 (by k_mem)) (by omega) (by omega) (v := .str (pathOf wlk.reverse) tt1) (by rw [← htt]; simp) ?_
          refine args_nil ?_
          refine ⟨(Gd.keeps G F20.keep).K, ?_⟩
          dsimp only [List.nil_append]
          have hprev : (pathOf wlk.reverse).length ≤ 1000 := by
            have := path_len (ls := wlk.reverse) (fun x hx => rlk.v x (by simpa using hx))
            simp at this
            omega
          refine wpAny_call (c_split hprev (okA.less (by decide)) (Gd.keeps G F20.keep) ?_)
          intro h21 tk21 t21 t21' ta nt k21 fr21 ha21
          have F21 := Fr.st F20 k21
          have N21 := news_ret F20 N20 k21 fr21 ha21
          clear F20 N20 k21
          repeat' ((fail_if_success (with_reducible show wpAny _ _ (exec (Stmt.For _ _ _ _ _) _) _ _ _)); first | walk1 | (dsimp only; walk1))
          rename Fr _ _ _ _ => F22
          rename News _ _ _ _ => N22
          have N23 := law_j N22
          clear N22
          refine For_cellR (c := S1.heap.objs.size + 1 + 1 + 1) S1.heap [Str.ofString "domain", Str.ofString "named", Str.ofString "told", Str.ofString "closest"] (by rfl) (by rfl) (by rfl) (by rfl) ?_
          repeat' ((fail_if_success (with_reducible show wpAny _ _ (call (Value.builtin "len") _) _ _ _)); first | walk1 | (dsimp only; walk1))
          refine len_list (News.isList N23 (by k_mem)) (by simp; omega) ?_
          repeat' ((fail_if_success (with_reducible refine Exists.intro ?_ ?_)); first | walk1 | (dsimp only; walk1))
          rename Fr _ _ _ _ => F24
          rename News _ _ _ _ => N24
          rename IsRange _ _ _ _ _ _ _ _ => hRj
          refine ⟨_, _, _, _, _, _, _, _, _, rfl, hRj, by omega, by omega, F24, N24, dj1, law_j_ne hfa3 hne9 hmR hmL hm3 hm2 hbkE hlkE hoff hown, ?_, ?_⟩
          · intro j tj uj h25 tk25 Ij oIj oj2 hj F25 N25 dj2
            clear F24 N24
            have hj' : j < rs.length := by omega
            have hwlk' : wlk = wk.map Txt.lower := by rw [hlrs, List.getElem?_map, hwk] at hwlk; exact (Option.some.inj hwlk).symm
            obtain ⟨bj, vsj, cj, wj, hbj, hbjE, hvj, hwj⟩ := hR3.at (i := j) (v := us[j]'(by omega)) (by simp)
            obtain ⟨lj, vlj, clj, wlj, hlj, hljE, hvlj, hwlj⟩ := hR3'.at (i := j) (v := ys[j]'(by omega)) (by simp)
            have hwlj' : wlj = wj.map Txt.lower := by have q := hwlj; rw [hlrs, List.getElem?_map, hwj] at q; exact (Option.some.inj q).symm
            have rwj : Row wj := hRow _ (List.mem_of_getElem? hwj)
            have rlj : Row wlj := hlow _ (List.mem_of_getElem? hwlj)
            have N26 := law_in N25 hbjE hljE
            clear N25
            repeat' ((fail_if_success (with_reducible show wpAny _ _ (subscriptTail _ _ _ _) _ _ _)); first | walk1 | (dsimp only; walk1))
            refine item_l (News.isList N26 (by k_mem)) (by omega) (by omega) (v := .ref bj) (by rw [← hbj]; simp) ?_
            refine args_nil ?_
            dsimp only [List.nil_append, List.cons_append]
            refine join_listW (News.isList N26 (by k_mem)) hvj (by decide +kernel) (row_weight rwj) ?_
            intro tdj kdj
            have hdl : (Txt.join (Str.ofString ".") wj).length ≤ 60 := dots_len rwj
            have hdk : (Txt.join (Str.ofString ".") wk).length ≤ 60 := dots_len rwk
            have htv : tv wk wj = (!endsV wk && (liesV wlk wlj && !endsV wj)) := by unfold tv; rw [hwlk', hwlj']
            repeat' ((fail_if_success (with_reducible show wpAny _ _ (subscriptTail _ _ _ _) _ _ _)); first | walk1 | (dsimp only; walk1))
            refine item_l (News.isList (by assumption) (by k_mem)) (by omega) (by omega) (v := .ref bk) (by rw [← hbk]; simp) ?_
            refine args_nil ?_
            rename Fr _ _ _ _ => F27
            rename News _ _ _ _ => N27
            refine ⟨(Gd.keeps G F27.keep).K, ?_⟩
            dsimp only [List.nil_append, List.cons_append]
            clear F25 N26
            obtain ⟨e1, he1⟩ : ∃ e, endsV wk = e := ⟨_, rfl⟩
            refine wpAny_call (c_ends' he1 (News.isList N27 (by k_mem)) hvk rwk (okA.less (by decide)) (Gd.keeps G F27.keep) ?_)
            intro h28 tk28 k28
            have F28 := Fr.st F27 k28
            have N28 := News.st N27 k28
            clear F27 N27 k28
            cases e1 with
            | true =>
              have htv1 : tv wk wj = false := by rw [htv, he1]; rfl
              repeat' ((fail_if_success (with_reducible show wpAny _ _ (call (Value.ref _) _) _ _ _)); first | walk1 | (dsimp only; walk1))
              rename Fr _ _ _ _ => F29
              rename News _ _ _ _ => N29
              refine wpAny_call (c_told rwk rwj htv1 (okA.less (by decide)) (Gd.keeps G F29.keep) ?_)
              intro h30 tk30 k30
              have F30 := Fr.st F29 k30
              have N30 := News.st N29 k30
              clear F29 N29 k30
              dsimp only
              repeat' ((fail_if_success (with_reducible show TurnC _ _ _ _ _ _ _ _ _)); first | walk1 | (dsimp only; walk1))
              rename Fr _ _ _ _ => F31
              rename News _ _ _ _ => N31
              exact ⟨_, _, _, rfl, F31, fun p hp => N31 p (law_sub hp), inner_z⟩
            | false =>
              repeat' ((fail_if_success (with_reducible show wpAny _ _ (subscriptTail _ _ _ _) _ _ _)); first | walk1 | (dsimp only; walk1))
              rename Fr _ _ _ _ => F29
              rename News _ _ _ _ => N29
              refine item_l (News.isList N29 (by k_mem)) (by omega) (by omega) (v := .ref bj) (by rw [← hbj]; simp) ?_
              refine args_nil ?_
              refine ⟨(Gd.keeps G F29.keep).K, ?_⟩
              dsimp only [List.nil_append, List.cons_append]
              obtain ⟨e2, he2⟩ : ∃ e, endsV wj = e := ⟨_, rfl⟩
              refine wpAny_call (c_ends' he2 (News.isList N29 (by k_mem)) hvj rwj (okA.less (by decide)) (Gd.keeps G F29.keep) ?_)
              intro h30 tk30 k30
              have F30 := Fr.st F29 k30
              have N30 := News.st N29 k30
              clear F29 N29 k30
              cases e2 with
              | true =>
                have htv1 : tv wk wj = false := by rw [htv, he1, he2]; simp
                repeat' ((fail_if_success (with_reducible show wpAny _ _ (call (Value.ref _) _) _ _ _)); first | walk1 | (dsimp only; walk1))
                rename Fr _ _ _ _ => F31
                rename News _ _ _ _ => N31
                refine wpAny_call (c_told rwk rwj htv1 (okA.less (by decide)) (Gd.keeps G F31.keep) ?_)
                intro h32 tk32 k32
                have F32 := Fr.st F31 k32
                have N32 := News.st N31 k32
                clear F31 N31 k32
                dsimp only
                repeat' ((fail_if_success (with_reducible show TurnC _ _ _ _ _ _ _ _ _)); first | walk1 | (dsimp only; walk1))
                rename Fr _ _ _ _ => F33
                rename News _ _ _ _ => N33
                exact ⟨_, _, _, rfl, F33, fun p hp => N33 p (law_sub hp), inner_z⟩
              | false =>
                obtain ⟨lv, hlv⟩ : ∃ e, liesV wlk wlj = e := ⟨_, rfl⟩
                have htv1 : tv wk wj = lv := by rw [htv, he1, he2, hlv]; simp
                repeat' ((fail_if_success (with_reducible show wpAny _ _ (call (Value.ref _) _) _ _ _)); first | walk1 | (dsimp only; walk1))
                rename Fr _ _ _ _ => F31
                rename News _ _ _ _ => N31
                refine wpAny_call (c_told rwk rwj htv1 (okA.less (by decide)) (Gd.keeps G F31.keep) ?_)
                intro h32 tk32 k32
                have F32 := Fr.st F31 k32
                have N32 := News.st N31 k32
                clear F31 N31 k32
                dsimp only
                repeat' ((fail_if_success (with_reducible show wpAny _ _ (subscriptTail _ _ _ _) _ _ _)); first | walk1 | (dsimp only; walk1))
                rename Fr _ _ _ _ => F33
                rename News _ _ _ _ => N33
                refine item_l (News.isList N33 (by k_mem)) (by omega) (by omega) (v := .ref lk) (by rw [← hlk]; simp) ?_
                repeat' ((fail_if_success (with_reducible show wpAny _ _ (subscriptTail _ _ _ _) _ _ _)); first | walk1 | (dsimp only; walk1))
                rename Fr _ _ _ _ => F34
                rename News _ _ _ _ => N34
                refine item_l (News.isList N34 (by k_mem)) (by omega) (by omega) (v := .ref lj) (by rw [← hlj]; simp) ?_
                refine args_nil ?_
                refine ⟨(Gd.keeps G F34.keep).K, ?_⟩
                dsimp only [List.nil_append, List.cons_append]
                refine wpAny_call (c_lies' hlv (News.isList N34 (by k_mem)) hvlk (News.isList N34 (by k_mem)) hvlj rlk rlj (okA.less (by decide)) (Gd.keeps G F34.keep) ?_)
                intro h35 tk35 k35
                have F35 := Fr.st F34 k35
                have N35 := News.st N34 k35
                clear F34 N34 k35
                dsimp only
                repeat' ((fail_if_success (with_reducible show wpAny _ _ (eval (Expr.ListComp _ _ _ _) _) _ _ _)); first | walk1 | (dsimp only; walk1))
                · rename (lv != lv) = true => hb
                  simp at hb
                refine LCt.ListComp_T (F₀ := F35) (by with_unfolding_all rfl) (by decide) (by rfl) (by decide) (by rfl) ?_
                walk1
                refine LCt.CompSrcT.ledger rfl F35 N35 (List.Mem.tail _ (.tail _ (.head _))) (by have := hvf.len_eq; have : (frs wlk 0).length ≤ 10 := (by unfold frs; simp; omega); simp [sizeLine]; omega) ?_
                intro g4
                refine comp_indT (List.toArray vsf).size (fun i zs4 news => news = (Ij, oIj) :: (S1.heap.objs.size + 1 + 1 + 1, oj2) :: (fa, listOf (List.toArray vsf) cf) :: (S1.heap.objs.size + 1 + 1, op2) :: (S1.heap.objs.size + 1, ot') :: (ra, listOf (List.toArray us) c) :: (D, LCg.lst ys) :: (D3, LCg.lst zs2) :: (D2, LCg.lst zs) :: (bk, listOf (List.toArray vsk) ck) :: (lk, listOf (List.toArray vlk) clk) :: (bj, listOf (List.toArray vsj) cj) :: (lj, listOf (List.toArray vlj) clj) :: (own ++ E3)
                  ∧ StrsAre zs4 (((frs wlk 0).take i).filter (fun f => Txt.startswith (pathOf wlk) (joinStep f (tailOf wlj))))) ?_ ?_ ⟨rfl, .nil⟩
                · rintro i4 zs4 news4 v4 I4 oI4 C4 oC4 D4 m4 h36 tk36 E' hi4 ⟨rfl, hz4⟩ hP4 hN4 hm4 F36 N36 off4 ne4
                  clear F35 N35
                  have hif : i4 < (frs wlk 0).length := by have := hvf.len_eq; simp at hi4; omega
                  obtain ⟨f4, tf4, hf4, rfl⟩ : ∃ f t, (frs wlk 0)[i4]? = some f ∧ v4 = .str f t := by
                    obtain ⟨tf, htf⟩ := hvf.at (j := i4) (y := (frs wlk 0)[i4]) (by simp [hif])
                    have hv2 : vsf[i4]? = some v4 := by simpa using hP4
                    rw [htf] at hv2
                    exact ⟨_, _, by simp [hif], (Option.some.inj hv2).symm⟩
                  have hfl4 := frs_len rlk f4 (List.mem_of_getElem? hf4)
                  repeat' ((fail_if_success (with_reducible show wpAny _ _ (subscriptTail _ _ _ _) _ _ _)); first | walk1 | (dsimp only; walk1))
                  obtain ⟨tt4, htt4⟩ := hz.at (j := j) (y := tailOf wlj) (by rw [List.getElem?_map, hwlj]; rfl)
                  refine item_l (News.isList N36 (by k_mem)) (by omega) (by omega) (v := .str (tailOf wlj) tt4) (by rw [← htt4]; simp) ?_
                  refine args_nil ?_
                  refine ⟨(Gd.keeps G F36.keep).K, ?_⟩
                  dsimp only [List.nil_append, List.cons_append]
                  refine wpAny_call (c_joinL (.cons _ _ .nil) (by omega) (fun b hb => by rw [List.mem_singleton.mp hb]; exact tail_len rlj) (by simp) (okA.less (by decide)) (Gd.keeps G F36.keep) ?_)
                  intro h37 tk37 t37 k37 hl37
                  have F37 := Fr.st F36 k37
                  have N37 := News.st N36 k37
                  clear F36 N36 k37
                  dsimp only [List.foldl_cons, List.foldl_nil] at hl37 ⊢
                  repeat' ((fail_if_success (with_reducible show LCg.CompEnd _ _ _ _ _ _ _ _ _ _ _ _ _ _)); first | walk1 | (dsimp only; walk1))
                  · have hb : Txt.startswith (pathOf wlk) (joinStep f4 (tailOf wlj)) = true := by assumption
                    refine ⟨_, _, _, rfl, F37, N37, off4, .inr ⟨_, List.Mem.tail _ (.tail _ (.head _)), rfl, _, rfl⟩, rfl, ?_⟩
                    rw [filt_yes hf4 hb]
                    exact hz4.append' (.cons _ _ .nil)
                  · have hb : Txt.startswith (pathOf wlk) (joinStep f4 (tailOf wlj)) = false := by assumption
                    refine ⟨_, _, _, rfl, F37, N37, off4, .inr ⟨_, List.Mem.tail _ (.tail _ (.head _)), rfl, _, rfl⟩, rfl, ?_⟩
                    rw [filt_no hf4 hb]
                    exact hz4
                · rintro zs4 news4 ⟨rfl, hz4⟩
                  clear F35 N35
                  intro D4 h36 tk36 F36 N36 off4
                  rw [show (List.toArray vsf).size = (frs wlk 0).length by simp [hvf.len_eq], List.take_length] at hz4
                  have hfll := (fronts_lies rlk rlj).trans hlv
                  repeat' ((fail_if_success (with_reducible show wpAny _ _ (newList _) _ _ _)); first | walk1 | (dsimp only; walk1))
                  refine newList_K F36 N36 ?_
                  intro D5 h38 F38 N38 l38
                  clear F36 N36 l38
                  refine ne_strs (News.isList N38 (by k_mem)) (News.isList N38 (by k_mem)) hz4 .nil (fun x hx => frs_ok rlk x ((List.mem_filter.mp hx).1)) (by simp) okU ?_
                  rw [hfll]
                  cases lv with
                  | false =>
                    have hfar := (head_turned rlk rlj).trans (far_false rlk rlj hlv)
                    repeat' ((fail_if_success (with_reducible show wpAny _ _ (subscriptTail _ _ _ _) _ _ _)); first | walk1 | (dsimp only; walk1))
                    rename Fr _ _ _ _ => F40
                    rename News _ _ _ _ => N40
                    obtain ⟨tt5, htt5⟩ := hz2.at (j := j) (y := pathOf wlj.reverse) (by rw [List.getElem?_map, hwlj]; rfl)
                    refine item_l (News.isList N40 (by k_mem)) (by omega) (by omega) (v := .str (pathOf wlj.reverse) tt5) (by rw [← htt5]; simp) ?_
                    repeat' ((fail_if_success (with_reducible show TurnC _ _ _ _ _ _ _ _ _)); first | walk1 | (dsimp only; walk1))
                    · rename (false != _) = true => hb
                      rw [hfar] at hb
                      cases hb
                    · rename Fr _ _ _ _ => F41
                      rename News _ _ _ _ => N41
                      exact ⟨_, _, _, rfl, F41, fun p hp => N41 p (.tail _ (.tail _ (law_sub hp))), inner_z⟩
                  | true =>
                    have hnear := near_law rwk rwj (by rw [← hwlk', ← hwlj']; exact hlv)
                    rw [← hwlk', ← hwlj', ← head_turned rlk rlj, Str.length_append] at hnear
                    unfold Txt.contains at hnear
                    repeat' ((fail_if_success (with_reducible show wpAny _ _ (subscriptTail _ _ _ _) _ _ _)); first | walk1 | (dsimp only; walk1))
                    walk1
                    repeat' ((fail_if_success (with_reducible show wpAny _ _ (subscriptTail _ _ _ _) _ _ _)); first | walk1 | (dsimp only; walk1))
                    rename Fr _ _ _ _ => F40
                    rename News _ _ _ _ => N40
                    obtain ⟨tt5, htt5⟩ := hz2.at (j := j) (y := pathOf wlj.reverse) (by rw [List.getElem?_map, hwlj]; rfl)
                    refine item_l (News.isList N40 (by k_mem)) (by omega) (by omega) (v := .str (pathOf wlj.reverse) tt5) (by rw [← htt5]; simp) ?_
                    repeat' ((fail_if_success (with_reducible show TurnC _ _ _ _ _ _ _ _ _)); first | walk1 | (dsimp only; walk1))
                    · rename (_ != _) = true => hb
                      exact absurd hnear (bne_iff_ne.mp hb)
                    · rename Fr _ _ _ _ => F41
                      rename News _ _ _ _ => N41
                      exact ⟨_, _, _, rfl, F41, fun p hp => N41 p (.tail _ (.tail _ (law_sub hp))), inner_z⟩
          · intro uj h25 tk25 oj2 vj2 F25 N25 dj2
            clear F24 N24
            repeat' ((fail_if_success (with_reducible show Turn _ _ _ _ _ _ _ _ _)); first | walk1 | (dsimp only; walk1))
            refine ⟨_, _, _, _, rfl, F25, law_close N25, law_off hoff, [], ⟨rfl, _, _, _, _, rfl, dp2, dj2⟩, by simp, ?_⟩
            simp +contextual [mset, mput]
        · rintro kv u news₁ h13 tk13 ⟨rfl, op1, oj1, vp1, vj1, rfl, dp1, dj1⟩ F13 N13
          clear F12 N12
          repeat' (first | walk1 | (dsimp only; walk1))
          k_steps
end Mine
end

theorem PySem.Challenge.cw_pd0099_01_holds : PySem.Challenge.rw_pd0099_01.Holds :=
  Mine.holds
